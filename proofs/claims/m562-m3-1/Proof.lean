import JvmDerived
import JvmDerived.Pilot.@@N@@Statement
import JvmDerived.Pilot.@@N@@Code
set_option linter.unusedVariables false
set_option linter.unusedSimpArgs false
/- laws to paste: pair_says, shr0, Road.wide_lo, Road.wide_hi, Road.CodA (cut by pick.py; bodies as the Statement names them) -/
open Int32 (ofNat)
namespace Jvm.Pilot.@@N@@
namespace StrChars
open Jvm Sem ClassFile Op Lib Jvm.Stand Jvm.Free.XT Jvm.Free.ALB Jvm.Free.JM Jvm.Free
open Jvm.Lib.Cold (StaticIs)
/-- the byte that i2b leaves of a char -/
def lo8 (x : Int32) : Int32 := x.toInt8.toInt32
end StrChars
namespace StrChars
open Jvm Sem ClassFile Op Lib Jvm.Stand Jvm.Free.XT Jvm.Free.ALB Jvm.Free.JM Jvm.Free
open Jvm.Lib.Cold (StaticIs)
def hi8 (x : Int32) : Int32 := lo8 (x >>> ((8 : Int32) &&& 31))
/-- what StringUTF16.getChar makes of two bytes -/
def pairCh (u v : Int32) : Int32 := (((u &&& 255) <<< ((0 : Int32) &&& 31)) ||| ((v &&& 255) <<< ((8 : Int32) &&& 31))).toUInt32.toUInt16.toUInt32.toInt32
theorem shr0 (c : Int32) : c >>> ((0 : Int32) &&& 31) = c := by
  have e : ((0 : Int32) &&& 31) = 0 := by decide
  rw [e]
  apply Int32.toBitVec_inj.mp
  rw [Int32.toBitVec_shiftRight]
  have e1 : ((0 : Int32).toBitVec.smod 32) = 0#32 := by decide
  rw [e1, BitVec.sshiftRight_eq']
  exact BitVec.sshiftRight_zero
theorem lo8_and (x : Int32) : (lo8 x &&& 255).toBitVec.toNat = x.toBitVec.toNat % 256 := by
  have h : (lo8 x).toBitVec = (x.toBitVec.signExtend 8).signExtend 32 := by rw [lo8, Int8.toBitVec_toInt32, Int32.toBitVec_toInt8]
  rw [Int32.toBitVec_and, BitVec.toNat_and, h]
  have e : ((x.toBitVec.signExtend 8).signExtend 32).toNat % 256 = x.toBitVec.toNat % 256 := by
    rw [BitVec.toNat_signExtend]
    have hlt := x.toBitVec.isLt
    simp only [BitVec.toNat_setWidth, BitVec.toNat_signExtend]
    split <;> split <;> omega
  rw [← e]
  exact Nat.and_two_pow_sub_one_eq_mod _ 8
theorem pair_says {c : Int32} (h0 : ¬ c < 0) (h1 : ¬ 65535 < c) : pairCh (lo8 c) (hi8 c) = c := by
  rw [Int32.lt_iff_toInt_lt] at h0 h1
  have e0 : (0 : Int32).toInt = 0 := rfl
  have e1 : (65535 : Int32).toInt = 65535 := rfl
  have hc : c.toInt = c.toBitVec.toNat := by
    have := c.toBitVec.isLt
    have e : c.toInt = c.toBitVec.toInt := rfl
    rw [e] at h0 h1
    rw [e]
    rw [BitVec.toInt_eq_toNat_cond] at h0 h1 ⊢
    split at h0 <;> split <;> omega
  have hn : c.toBitVec.toNat < 65536 := by omega
  have a1 := lo8_and c
  have a2 : (hi8 c &&& 255).toBitVec.toNat = c.toBitVec.toNat / 256 := by
    rw [hi8, lo8_and]
    have e : ((8 : Int32) &&& 31) = 8 := by decide
    rw [e, Int32.toBitVec_shiftRight]
    have e2 : ((8 : Int32).toBitVec.smod 32) = 8#32 := by decide
    rw [e2, BitVec.sshiftRight_eq', BitVec.toNat_sshiftRight_of_msb_false (by rw [BitVec.msb_eq_false_iff_two_mul_lt]; omega)]
    show c.toBitVec.toNat >>> 8 % 256 = _
    rw [Nat.shiftRight_eq_div_pow]
    omega
  unfold pairCh
  apply Int32.toBitVec_inj.mp
  apply BitVec.eq_of_toNat_eq
  have f0 : ((0 : Int32) &&& 31) = 0 := by decide
  have f8 : ((8 : Int32) &&& 31) = 8 := by decide
  rw [f0, f8]
  have g : (((lo8 c &&& 255) <<< (0 : Int32)) ||| ((hi8 c &&& 255) <<< (8 : Int32))).toBitVec.toNat = c.toBitVec.toNat := by
    rw [Int32.toBitVec_or, Int32.toBitVec_shiftLeft, Int32.toBitVec_shiftLeft]
    have s0 : ((0 : Int32).toBitVec.smod 32) = 0#32 := by decide
    have s8 : ((8 : Int32).toBitVec.smod 32) = 8#32 := by decide
    rw [s0, s8, BitVec.toNat_or]
    simp only [BitVec.shiftLeft_eq', BitVec.toNat_shiftLeft, a1, a2]
    show (c.toBitVec.toNat % 256) <<< 0 % 2 ^ 32 ||| (c.toBitVec.toNat / 256) <<< 8 % 2 ^ 32 = _
    rw [Nat.shiftLeft_zero, Nat.mod_eq_of_lt (show c.toBitVec.toNat % 256 < 2 ^ 32 by omega), Nat.mod_eq_of_lt (show (c.toBitVec.toNat / 256) <<< 8 < 2 ^ 32 by rw [Nat.shiftLeft_eq]; omega), Nat.or_comm, ← Nat.shiftLeft_add_eq_or_of_lt (by omega), Nat.shiftLeft_eq]
    omega
  show BitVec.toNat (((((lo8 c &&& 255) <<< (0 : Int32)) ||| ((hi8 c &&& 255) <<< (8 : Int32))).toBitVec.setWidth 16).setWidth 32) = _
  rw [BitVec.toNat_setWidth, BitVec.toNat_setWidth, g]
  omega
end StrChars
namespace StrChars.Road
open Jvm Sem ClassFile Op Lib Jvm.Stand Jvm.Free Jvm.Free.XT
open Jvm.Lib.Cold (StaticIs)
/-- the bytes of the chars cs, low before high -/
def wideBytes : List Int32 → List Value
  | [] => []
  | c :: cs => .int (lo8 c) :: .int (hi8 c) :: wideBytes cs
theorem wide_lo (d : Value) : ∀ (cs : List Int32) (j : Nat), j < cs.length → (wideBytes cs).getD (2 * j) d = .int (lo8 (cs.getD j 0))
  | [], j, h => absurd h (Nat.not_lt_zero j)
  | c :: cs, 0, _ => rfl
  | c :: cs, j + 1, h => by
    have q := wide_lo d cs j (by simpa using h)
    rw [show 2 * (j + 1) = 2 * j + 1 + 1 from by omega]
    simpa [wideBytes] using q
theorem wide_hi (d : Value) : ∀ (cs : List Int32) (j : Nat), j < cs.length → (wideBytes cs).getD (2 * j + 1) d = .int (hi8 (cs.getD j 0))
  | [], j, h => absurd h (Nat.not_lt_zero j)
  | c :: cs, 0, _ => rfl
  | c :: cs, j + 1, h => by
    have q := wide_hi d cs j (by simpa using h)
    rw [show 2 * (j + 1) + 1 = 2 * j + 1 + 1 + 1 from by omega]
    simpa [wideBytes] using q
/-- an array of N2 bytes vs codes the chars cs by the coder cd -/
def CodA (cs : List Int32) (cd N2 : Int32) (vs : List Value) : Prop := (cd = 0 ∧ N2 = Int32.ofNat cs.length ∧ vs = (cs.map fun c => Value.int (lo8 c)) ∧ ∀ c ∈ cs, ¬ 255 < c) ∨ (cd = 1 ∧ N2 = Int32.ofNat (2 * cs.length) ∧ vs = wideBytes cs ∧ ∃ c ∈ cs, 255 < c)
end StrChars.Road
end Jvm.Pilot.@@N@@
/- own kit 1: goal-directed walks -/
namespace Jvm.Pilot.@@N@@
open Jvm Jvm.ClassFile Sem Op Lib Jvm.Free Jvm.Stand Jvm.LawKit Jvm.RoadKit Bundle Jvm.Pilot.@@N@@.Jvm.D
section OwnKit
variable {p : Program} {l : Launch} {e : Env} {R : Room} {s : State} {m : MethodId} {args : Array Value} {below : List Frame} {meth : Method} {c : Code} {T : State} {locs : List Loc} {cells slots : Nat} {Z : State} {a0 : Array Value} {h : Heap}
/-- a method's contract: what it leaves, asked at the heap h with these arguments -/
abbrev yZ (l : Launch) (Z : State) (y : MethodName) (bytes : ByteArray) (maxL : Nat) (ret : Option FieldType) (ws : List Jvm.Cond) (rm : Room) (as : Array Value) (h : Heap) (Q : Option Value → Heap → List Loc → Prop) : Prop :=
  MetFree l y (head1 (Jvm.Cond.code y bytes maxL ret :: ws) rm) (fun a U => a = as ∧ Z.Warmed39 U.vm ∧ U.heap = h) (fun _ _ _ _ _ => True) (fun _ U o U' => ∃ v L, o = .returned v ∧ Q v U'.heap L ∧ FrameEnd U o U' L rm.cells rm.slots)
/-- the same at a call -/
abbrev o_Bk (l : Launch) (R : Room) (p : Program) (e : Env) (below : List Frame) (s : State) (args : Array Value) (y : MethodName) (len W : Nat) (as : Array Value) (h : Heap) (kc ks : Nat) (Q : Option Value → Heap → List Loc → Prop) : Prop :=
  Back l R p e below s args y len W (fun A a => a = as ∧ A.U.heap = h ∧ A.cells + kc ≤ R.cells ∧ A.slots + ks ≤ R.slots) (fun A _ v B => ∃ L, Q v B.U.heap L ∧ B.locs = A.locs ++ L ∧ B.cells = A.cells + kc ∧ B.slots = A.slots + ks)
/-- from the state A the body comes to its end as Q says -/
def uR (p : Program) (e : Env) (below : List Frame) (s : State) (Q : Option Value → Heap → List Loc → Prop) (C S : Nat) (A : State) : Prop :=
  ∃ t v L, Steps p.tables e below A t ∧ t.status = .running ∧ Ended t below (.returned v) ∧ Q v t.heap L ∧ FrameEnd s (.returned v) t L C S
theorem yA {Q : Option Value → Heap → List Loc → Prop} {C S : Nat} {A B : State} (k : ∀ t, Steps p.tables e below B t → Steps p.tables e below A t) (G : uR p e below s Q C S B) : uR p e below s Q C S A := by
  obtain ⟨t, v, L, h1, h2⟩ := G
  exact ⟨t, v, L, k t h1, h2⟩
theorem yK {y : MethodName} {bytes : ByteArray} {maxL : Nat} {ret : Option FieldType} {ws : List Jvm.Cond} {rm : Room} {as : Array Value} {Q : Option Value → Heap → List Loc → Prop} (hp : plainFor y = true)
    (body : ∀ (p : Program) (e : Env) (s : State) (m : MethodId) (below : List Frame) (meth : Method) (c : Code) (T : State), Stand p l e rm s m as below meth c T [] 0 0 → p.tables.exec = Jvm.exec → c.code = bytes → c.maxLocals = maxL → Z.Warmed39 s.vm → s.vm.findClass y.cls = some m.cls → meth.name = y.name → meth.sig.returnType = ret → meth.locks = false → T.heap = h →
      uR p e below s Q rm.cells rm.slots (T.setTop (entryFrame m as maxL))) : yZ l Z y bytes maxL ret ws rm as h Q := by
  refine MetFree.of_bodySF hp hisR ?_
  intro p e s m args below meth c s₁ Bd hml hP hK
  obtain ⟨rfl, hZ, hh⟩ := hP
  obtain ⟨t, v, L, h1, h2, h3, h4, h5⟩ := body p e s m below meth c s₁ (Stand.of_body Bd) Bd.exec Bd.bytes hml hZ (findClass_of_methodNamed Bd.named) (name_of_methodNamed Bd.named Bd.method).1 Bd.returns Bd.notSynchronized (by rw [← hh, Bd.state]; rfl)
  exact ⟨t, _, h1, h2, h3, v, L, rfl, h4, h5⟩
theorem o_ret {Q : Option Value → Heap → List Loc → Prop} {C S : Nat} (X : Stand p l e R s m args below meth c T locs cells slots) (hx : p.tables.exec = Jvm.exec) (hk : meth.locks = false) (eT : T.heap = h) {pc : Nat} {Ls : Array Slot} {w : Value} {t : FieldType} {i : Instr} {rest : List Value} (hret : meth.sig.returnType = some t) (hn : narrow t w = w)
    (hi : (i = .ireturn ∧ (t = .int ∨ t = .boolean ∨ t = .byte ∨ t = .char ∨ t = .short) ∧ ∃ z, w = .int z) ∨ (i = .lreturn ∧ t = .long ∧ ∃ z, w = .long z) ∨ (i = .dreturn ∧ t = .double ∧ ∃ z, w = .double z) ∨ (i = .freturn ∧ t = .float ∧ ∃ z, w = .float z) ∨ (i = .areturn ∧ t.isReference = true ∧ w.isRef = true))
    (hd : decode c.code pc = .ok (i, 1)) (hc : cells ≤ C) (hs : slots ≤ S) (hq : Q (some w) h locs) : uR p e below s Q C S (T.setTop (mkF m pc Ls (w :: rest))) := by
  obtain ⟨fs, hr, hrun, hended, hW, hsame⟩ := X.leave (v := some w) (fun h => by rw [hret] at h; cases h) hk
  exact ⟨_, some w, locs, retOut X hx hret hn hi hd hr, hrun, hended, by subst eT; exact hq, ⟨_, rfl⟩, hW, hsame.mono hc hs⟩
theorem o_retV {Q : Option Value → Heap → List Loc → Prop} {C S : Nat} (X : Stand p l e R s m args below meth c T locs cells slots) (hx : p.tables.exec = Jvm.exec) (hk : meth.locks = false) (eT : T.heap = h) {pc : Nat} {Ls : Array Slot} (hret : meth.sig.returnType = none)
    (hd : decode c.code pc = .ok (.return_, 1)) (hc : cells ≤ C) (hs : slots ≤ S) (hq : Q none h locs) : uR p e below s Q C S (T.setTop (mkF m pc Ls [])) := by
  obtain ⟨fs, hr, hrun, hended, hW, hsame⟩ := X.leave (v := none) (fun _ => rfl) hk
  exact ⟨_, none, locs, X.returnOut hx hret hd hr, hrun, hended, by subst eT; exact hq, ⟨_, rfl⟩, hW, hsame.mono hc hs⟩
theorem qY {y : MethodName} {bytes : ByteArray} {maxL : Nat} {ret : Option FieldType} {rm : Room} {len W : Nat} {as : Array Value} {Q : Option Value → Heap → List Loc → Prop} (hM : yZ l Z y bytes maxL ret [] rm as h Q) (hZ : Z.Warmed39 s.vm) (wc : (Jvm.Cond.code y bytes maxL ret).before a0 Z = true) (wz : (Jvm.Cond.initialized y.cls).before a0 Z = true) (hf : rm.frames + 1 ≤ R.frames) (hl : W + (maxL + 11) + rm.locals ≤ R.locals) :
    o_Bk l R p e below s args y len W as h rm.cells rm.slots Q := backOf hM hZ wc wz hf hl
theorem o_callS (X : Stand p l e R s m args below meth c T locs cells slots) (hx : p.tables.exec = Jvm.exec) (hZ : Z.Warmed39 s.vm) {own : String} {index : Nat} {y : MethodName} {bytes : ByteArray} {maxL : Nat} {ret : Option FieldType}
    (hown : s.vm.findClass own = some m.cls) (w1 : (Jvm.Cond.methodLink own index y).before a0 Z = true) (w2 : (Jvm.Cond.static y).before a0 Z = true) (w3 : (Jvm.Cond.initialized y.cls).before a0 Z = true) (w4 : (Jvm.Cond.code y bytes maxL ret).before a0 Z = true) (hy : y.cls ≠ "java/lang/invoke/MethodHandle" ∧ y.cls ≠ "java/lang/invoke/VarHandle")
    {W kc ks : Nat} {as : Array Value} {Q : Option Value → Heap → List Loc → Prop} (hK : o_Bk l R p e below s args y 3 W as h kc ks Q) (eT : T.heap = h) (hc : cells + kc ≤ R.cells) (hs : slots + ks ≤ R.slots)
    {g : JFrame} (hg : g.method = m) (hsize : g.locals.size = c.maxLocals) {argsL rest : List Value} (hlen : ∀ sig, parseMethodDescriptor y.desc = some sig → argsL.length = sig.parameters.length) (hstack : g.stack = argsL.reverse ++ rest) (has : argsL.toArray = as) (hW : 2 * g.monitorRoom + (rest.map fun v => v.category).sum ≤ W) (hdg : decode c.code g.pc = .ok (.invokestatic index, 3)) :
    ∃ (T' : State) (v : Option Value) (L : List Loc) (h' : Heap), Stand p l e R s m args below meth c T' (locs ++ L) (cells + kc) (slots + ks) ∧ T'.heap = h' ∧ Q v h' L ∧ ∀ t, Steps p.tables e below (T'.setTop { g with pc := g.pc + 3, stack := v.toList ++ rest }) t → Steps p.tables e below (T.setTop g) t := by
  obtain ⟨v, _, ⟨T', L', k', n'⟩, -, X', ⟨L, hQ, l1, y1, z1⟩, st⟩ := Jvm.LawKit.callS X hx hown (mvT hZ w1) (mvT hZ w2) (mvT hZ w3) (mvT hZ w4) hy hK hg hsize hlen hstack hW hdg (fun _ _ => ⟨has, eT, hc, hs⟩)
  dsimp only [Pt.U, Pt.locs, Pt.cells, Pt.slots] at X' hQ l1 y1 z1 st
  subst l1 y1 z1
  exact ⟨T', v, L, _, X', rfl, hQ, st⟩
theorem o_callI (X : Stand p l e R s m args below meth c T locs cells slots) (hx : p.tables.exec = Jvm.exec) (hZ : Z.Warmed39 s.vm) {own : String} {index : Nat} {y : MethodName} (hy1 : y.name = "<init>") {bytes : ByteArray} {maxL : Nat}
    (hown : s.vm.findClass own = some m.cls) (w1 : (Jvm.Cond.methodLink own index y).before a0 Z = true) (w2 : (Jvm.Cond.instanceMethod y).before a0 Z = true) (w3 : (Jvm.Cond.code y bytes maxL none).before a0 Z = true) (hy : y.cls ≠ "java/lang/invoke/MethodHandle" ∧ y.cls ≠ "java/lang/invoke/VarHandle")
    {W kc ks : Nat} {as : Array Value} {Q : Option Value → Heap → List Loc → Prop} (hK : o_Bk l R p e below s args y 3 W as h kc ks Q) (eT : T.heap = h) (hc : cells + kc ≤ R.cells) (hs : slots + ks ≤ R.slots)
    {g : JFrame} (hg : g.method = m) (hsize : g.locals.size = c.maxLocals) {a : Addr} {argsL rest : List Value} (hlen : ∀ sig, parseMethodDescriptor y.desc = some sig → argsL.length = sig.parameters.length) (hstack : g.stack = argsL.reverse ++ .ref a :: rest) (has : (.ref a :: argsL).toArray = as) (hW : 2 * g.monitorRoom + (rest.map fun v => v.category).sum ≤ W) (hdg : decode c.code g.pc = .ok (.invokespecial index, 3)) :
    ∃ (T' : State) (v : Option Value) (L : List Loc) (h' : Heap), Stand p l e R s m args below meth c T' (locs ++ L) (cells + kc) (slots + ks) ∧ T'.heap = h' ∧ Q v h' L ∧ ∀ t, Steps p.tables e below (T'.setTop { g with pc := g.pc + 3, stack := v.toList ++ rest }) t → Steps p.tables e below (T.setTop g) t := by
  obtain ⟨v, _, ⟨T', L', k', n'⟩, -, X', ⟨L, hQ, l1, y1, z1⟩, st⟩ := X.specialBack hx hy1 hown (mvT hZ w1) (mvT hZ w2) (mvT hZ w3) hy hK hg hsize (Steps.refl _) hlen hstack hW hdg (fun _ _ => ⟨has, eT, hc, hs⟩)
  dsimp only [Pt.U, Pt.locs, Pt.cells, Pt.slots] at X' hQ l1 y1 z1 st
  subst l1 y1 z1
  exact ⟨T', v, L, _, X', rfl, hQ, fun t k => st.trans k⟩
theorem o_callV (X : Stand p l e R s m args below meth c T locs cells slots) (hx : p.tables.exec = Jvm.exec) (hZ : Z.Warmed39 s.vm) {own C : String} {index : Nat} {y z : MethodName}
    (hown : s.vm.findClass own = some m.cls) (w1 : (Jvm.Cond.methodLink own index y).before a0 Z = true) (w2 : (Jvm.Cond.declares y).before a0 Z = true) (nf : NotFace s y) (w3 : (Jvm.Cond.selects C y z).before a0 Z = true) (w4 : (Jvm.Cond.instanceMethod z).before a0 Z = true) (hy : y.cls ≠ "java/lang/invoke/MethodHandle" ∧ y.cls ≠ "java/lang/invoke/VarHandle")
    {W kc ks : Nat} {as : Array Value} {Q : Option Value → Heap → List Loc → Prop} (hK : o_Bk l R p e below s args z 3 W as h kc ks Q) (eT : T.heap = h) {b : Addr} (E : Exa Z h b C) (hc : cells + kc ≤ R.cells) (hs : slots + ks ≤ R.slots)
    {g : JFrame} (hg : g.method = m) (hsize : g.locals.size = c.maxLocals) {argsL rest : List Value} (hlen : ∀ sig, parseMethodDescriptor y.desc = some sig → argsL.length = sig.parameters.length) (hstack : g.stack = argsL.reverse ++ .ref b :: rest) (has : (.ref b :: argsL).toArray = as) (hW : 2 * g.monitorRoom + (rest.map fun v => v.category).sum ≤ W) (hdg : decode c.code g.pc = .ok (.invokevirtual index, 3)) :
    ∃ (T' : State) (v : Option Value) (L : List Loc) (h' : Heap), Stand p l e R s m args below meth c T' (locs ++ L) (cells + kc) (slots + ks) ∧ T'.heap = h' ∧ Q v h' L ∧ ∀ t, Steps p.tables e below (T'.setTop { g with pc := g.pc + 3, stack := v.toList ++ rest }) t → Steps p.tables e below (T.setTop g) t := by
  obtain ⟨cq, kq, qa, qb, qc⟩ := isOf hZ eT E
  obtain ⟨v, _, ⟨T', L', k', n'⟩, -, X', ⟨L, hQ, l1, y1, z1⟩, st⟩ := X.virtualBack hx hown (mvT hZ w1) (mvT hZ w2) nf (mvT hZ w3) (mvT hZ w4) hy hK qa qc hg hsize (Steps.refl _) hlen hstack hW hdg (fun _ _ => ⟨has, eT, hc, hs⟩)
  dsimp only [Pt.U, Pt.locs, Pt.cells, Pt.slots] at X' hQ l1 y1 z1 st
  subst l1 y1 z1
  exact ⟨T', v, L, _, X', rfl, hQ, fun t k => st.trans k⟩
theorem o_callF (X : Stand p l e R s m args below meth c T locs cells slots) (hx : p.tables.exec = Jvm.exec) (hZ : Z.Warmed39 s.vm) {own C : String} {index count : Nat} {y z : MethodName}
    (hown : s.vm.findClass own = some m.cls) (w1 : (Jvm.Cond.methodLink own index y).before a0 Z = true) (w2 : (Jvm.Cond.declares y).before a0 Z = true) (w3 : (Jvm.Cond.interfaceMethod y.cls y.cls y.name y.desc).before args s = true) (w4 : (Jvm.Cond.selects C y z).before a0 Z = true) (w5 : (Jvm.Cond.instanceMethod z).before a0 Z = true) (w6 : (Jvm.Cond.publicMethod z).before a0 Z = true) (w7 : (Jvm.Cond.unhidden C y.name y.desc).before a0 Z = true) (w8 : (Jvm.Cond.castable C y.cls).before a0 Z = true) (hy : y.cls ≠ "java/lang/invoke/MethodHandle" ∧ y.cls ≠ "java/lang/invoke/VarHandle")
    {W kc ks : Nat} {as : Array Value} {Q : Option Value → Heap → List Loc → Prop} (hK : o_Bk l R p e below s args z 5 W as h kc ks Q) (eT : T.heap = h) {b : Addr} (E : Exa Z h b C) (hc : cells + kc ≤ R.cells) (hs : slots + ks ≤ R.slots)
    {g : JFrame} (hg : g.method = m) (hsize : g.locals.size = c.maxLocals) {argsL rest : List Value} (hlen : ∀ sig, parseMethodDescriptor y.desc = some sig → argsL.length = sig.parameters.length) (hstack : g.stack = argsL.reverse ++ .ref b :: rest) (has : (.ref b :: argsL).toArray = as) (hW : 2 * g.monitorRoom + (rest.map fun v => v.category).sum ≤ W) (hdg : decode c.code g.pc = .ok (.invokeinterface index count, 5)) :
    ∃ (T' : State) (v : Option Value) (L : List Loc) (h' : Heap), Stand p l e R s m args below meth c T' (locs ++ L) (cells + kc) (slots + ks) ∧ T'.heap = h' ∧ Q v h' L ∧ ∀ t, Steps p.tables e below (T'.setTop { g with pc := g.pc + 5, stack := v.toList ++ rest }) t → Steps p.tables e below (T.setTop g) t := by
  obtain ⟨cq, kq, qa, qb, qc⟩ := isOf hZ eT E
  obtain ⟨v, _, ⟨T', L', k', n'⟩, -, X', ⟨L, hQ, l1, y1, z1⟩, st⟩ := X.interfaceBack hx hown (mvT hZ w1) (mvT hZ w2) w3 (mvT hZ w4) (mvT hZ w5) (mvT hZ w6) (mvT hZ w7) (mvT hZ w8) hy hK qa qb qc hg hsize (Steps.refl _) hlen hstack hW hdg (fun _ _ => ⟨has, eT, hc, hs⟩)
  dsimp only [Pt.U, Pt.locs, Pt.cells, Pt.slots] at X' hQ l1 y1 z1 st
  subst l1 y1 z1
  exact ⟨T', v, L, _, X', rfl, hQ, fun t k => st.trans k⟩
theorem yB {x y : Nat} {L : List Nat} (q : x ≠ y) (r : x ∉ L) : x ∉ y :: L := ninS q r
theorem yM {n0 : Nat} (O : Old Z n0 h) : n0 ≤ h.size := O.1 ▸ O.2.1
end OwnKit
end Jvm.Pilot.@@N@@
/- own kit 2: Strings of known chars -/
namespace Jvm.Pilot.@@N@@
open Jvm Jvm.ClassFile Sem Op Lib Jvm.Free Jvm.Stand Jvm.LawKit Jvm.RoadKit Bundle Jvm.Pilot.@@N@@.Jvm.D
section OwnStr
variable {p : Program} {l : Launch} {e : Env} {R : Room} {s : State} {args : Array Value} {below : List Frame} {Z : State} {a0 : Array Value} {h h' : Heap} {len W n0 : Nat}
def uE (Z : State) : Prop := ∃ z : Int32, Sta Z Z.heap "java/lang/String" "COMPACT_STRINGS" "Z" (.int z) ∧ ¬ z = 0
def qQ (Z : State) (h : Heap) (x : Addr) (cs : List Int32) : Prop := Exa Z h x "java/lang/String" ∧ ∃ (t : Addr) (kb : ClassId) (cd N2 : Int32) (vs : List Value), Fld Z h x "java/lang/String" "value" "[B" (.ref t) ∧ Fld Z h x "java/lang/String" "coder" "B" (.int cd) ∧ Arv Z h t kb .byte N2 vs (.int 0) ∧ StrChars.Road.CodA cs cd N2 vs ∧ (∀ c ∈ cs, ¬ c < 0 ∧ ¬ (65535 : Int32) < c) ∧ cs.length ≤ 4000
theorem qQ.keep {x : Addr} {cs : List Int32} (S : qQ Z h x cs) (K : Keep h h' []) (_ : x ∉ ([] : List Addr)) : qQ Z h' x cs := by
  obtain ⟨E, t, kb, cd, N2, vs, F1, F2, A, r⟩ := S
  exact ⟨E.keep K, t, kb, cd, N2, vs, F1.keep K nin0, F2.keep K nin0, A.keep K nin0, r⟩
theorem qQ.lt {x : Addr} {cs : List Int32} (S : qQ Z h x cs) : x < h.size := S.1.lt
theorem o_up (cs : List Int32) (h : ∀ c ∈ cs, ¬ c < 0 ∧ ¬ (255 : Int32) < c) : ∀ c ∈ cs, ¬ c < 0 ∧ ¬ (65535 : Int32) < c := fun c hc => ⟨(h c hc).1, fun q => (h c hc).2 (by rw [Int32.lt_iff_toInt_lt] at q ⊢; have e1 : (65535 : Int32).toInt = 65535 := rfl; have e2 : (255 : Int32).toInt = 255 := rfl; omega)⟩
theorem o_lt {x y : Int32} : x < y ↔ x.toInt < y.toInt := Int32.lt_iff_toInt_lt
theorem uF {c : Int32} (h : ¬ c < 0 ∧ ¬ (65535 : Int32) < c) : nar .char c = c := by
  have q := c_i2c c
  rw [o_lt, o_lt] at h
  have e1 : (65535 : Int32).toInt = 65535 := rfl
  have e2 : (0 : Int32).toInt = 0 := rfl
  apply Int32.toInt_inj.mp
  show c.toUInt32.toUInt16.toUInt32.toInt32.toInt = c.toInt
  omega
theorem o_all1 {P : Int32 → Prop} {a : Int32} (h : P a) : ∀ c ∈ [a], P c := fun c hc => by rw [List.mem_singleton.mp hc]; exact h
theorem uJ {P : Int32 → Prop} {a : Int32} {L : List Int32} (h : P a) (r : ∀ c ∈ L, P c) : ∀ c ∈ a :: L, P c := fun c hc => by
  rcases List.mem_cons.mp hc with e | e
  · rw [e]; exact h
  · exact r c e
end OwnStr
end Jvm.Pilot.@@N@@
/- own kit 3: small naturals as ints -/
namespace Jvm.Pilot.@@N@@
open Jvm Jvm.ClassFile Sem Op Lib Jvm.Free Jvm.Stand Jvm.LawKit Jvm.RoadKit Bundle Jvm.Pilot.@@N@@.Jvm.D
section OwnNum
theorem o_ti {n : Nat} (h : n < 2147483648) : (Int32.ofNat n).toInt = n := Int32.toInt_ofNat_small h
theorem qP {a b : Nat} (ha : a < 2147483648) (hb : b < 2147483648) : Int32.ofNat a < Int32.ofNat b ↔ a < b := by
  rw [Int32.lt_iff_toInt_lt, o_ti ha, o_ti hb]; omega
theorem o_nin {a b : Nat} (ha : a < 2147483648) (hb : b < 2147483648) : Int32.ofNat a = Int32.ofNat b ↔ a = b := by
  rw [← Int32.toInt_inj, o_ti ha, o_ti hb]; omega
theorem o_nsub {a b : Nat} (h : a ≤ b) (hb : b < 2147483648) : Int32.ofNat b - Int32.ofNat a = Int32.ofNat (b - a) := by
  have q := c_isub (Int32.ofNat b) (Int32.ofNat a)
  have r := rng32 (Int32.ofNat b - Int32.ofNat a)
  rw [o_ti hb, o_ti (by omega)] at q
  rw [← Int32.toInt_inj, o_ti (by omega)]; omega
theorem uD {a b : Nat} (h : a + b < 2147483648) : Int32.ofNat a + Int32.ofNat b = Int32.ofNat (a + b) := by
  have q := c_iadd (Int32.ofNat a) (Int32.ofNat b)
  have r := rng32 (Int32.ofNat a + Int32.ofNat b)
  rw [o_ti (by omega), o_ti (by omega)] at q
  rw [← Int32.toInt_inj, o_ti h]; omega
theorem uK {a : Nat} (h : a < 2147483648) : ¬ Int32.ofNat a < 0 := by
  rw [Int32.lt_iff_toInt_lt, o_ti h]; have : (0 : Int32).toInt = 0 := rfl; omega
theorem qU {a : Nat} (h : a < 2147483648) : (Int32.ofNat a).toNatClampNeg = a := by
  have q := nat_of (uK h)
  rw [o_ti h] at q; omega
theorem o_exN {x : Int32} (h : 0 ≤ x.toInt) : ∃ n : Nat, x = Int32.ofNat n ∧ (n : Int) = x.toInt := by
  have r := rng32 x
  refine ⟨x.toInt.toNat, ?_, by omega⟩
  rw [← Int32.toInt_inj, o_ti (by omega)]; omega
end OwnNum
end Jvm.Pilot.@@N@@
/- own kit P: private calls; words that follow from others -/
namespace Jvm.Pilot.@@N@@
open Jvm Jvm.ClassFile Sem Op Lib Jvm.Free Jvm.Stand Jvm.LawKit Jvm.RoadKit Bundle Jvm.Pilot.@@N@@.Jvm.D
section OwnPriv
variable {p : Program} {l : Launch} {e : Env} {R : Room} {s : State} {m : MethodId} {args : Array Value} {below : List Frame} {meth : Method} {c : Code} {T : State} {locs : List Loc} {cells slots : Nat} {Z : State} {a0 : Array Value} {h : Heap}
def o_NI (Z : State) (K : String) : Prop := ∃ (c : ClassId) (k : Class), Z.vm.findClass K = some c ∧ Z.vm.classes[c]? = some k ∧ k.isInterface = false
theorem o_NIi {K : String} {n : Nat} (w : (Jvm.Cond.instantiable K n).before a0 Z = true) : o_NI Z K := by
  obtain ⟨c, k, h1, h2, -, h3, -⟩ := Cond.instantiable_spec w
  refine ⟨c, k, h1, h2, ?_⟩
  cases hq : k.isInterface
  · rfl
  · rw [hq] at h3; simp at h3
theorem o_NIs {C : String} {y : MethodName} (w : (Jvm.Cond.selects C y y).before a0 Z = true) : o_NI Z y.cls := by
  obtain ⟨c2, r2, m2, -, -, q3, -, kP, hkP, hkPi⟩ := Cond.selects_spec w
  exact ⟨_, kP, findClass_of_methodNamed q3, hkP, hkPi⟩
theorem o_selP {y : MethodName} (ni : o_NI Z y.cls) (wi : (Jvm.Cond.instanceMethod y).before a0 Z = true) (wp : (Jvm.Cond.privateMethod y).before a0 Z = true) (hy : y.cls ≠ "java/lang/invoke/MethodHandle" ∧ y.cls ≠ "java/lang/invoke/VarHandle") : (Jvm.Cond.selects y.cls y y).before a0 Z = true := by
  obtain ⟨mk, mt, h1, h2, -, -⟩ := Cond.instanceMethod_spec wi
  have hp := Cond.privateMethod_at wp mk mt h1 h2
  have hf := State.methodFound?_of_named h1 hy
  have hc := findClass_of_methodNamed h1
  obtain ⟨c', k, n1, n2, n3⟩ := ni
  cases hc.symm.trans n1
  have hs : selectMethod {} Z.vm mk.cls mk = .method mk := selectMethod_private h2 hp
  simp [Cond.before, Cond.holds, Cond.value, hc, hf, h1, hs, n2, n3]
theorem o_same {y : MethodName} (ni : o_NI Z y.cls) (wi : (Jvm.Cond.instanceMethod y).before a0 Z = true) (hy : y.cls ≠ "java/lang/invoke/MethodHandle" ∧ y.cls ≠ "java/lang/invoke/VarHandle") : (Jvm.Cond.sameMethod y.cls y.cls y.name y.desc).before a0 Z = true := by
  obtain ⟨mk, mt, h1, h2, -, -⟩ := Cond.instanceMethod_spec wi
  have hf := State.methodFound?_of_named h1 hy
  have hc := findClass_of_methodNamed h1
  obtain ⟨c', k, n1, n2, n3⟩ := ni
  cases hc.symm.trans n1
  simp [Cond.before, Cond.holds, Cond.value, hc, hf, h1, n2, n3]
theorem o_nf {y : MethodName} (hZ : Z.Warmed39 s.vm) (ni : o_NI Z y.cls) : NotFace s y := fun r0 h0 => by
  have hc := findClass_of_methodNamed h0
  obtain ⟨c', k, n1, n2, n3⟩ := ni
  rw [hZ.alike.findClass] at hc
  cases hc.symm.trans n1
  obtain ⟨k', q1, q2⟩ := hZ.alike.2.2 _ _ n2
  refine ⟨k', q1, ?_⟩
  rw [q2]; exact n3
theorem o_callP (X : Stand p l e R s m args below meth c T locs cells slots) (hx : p.tables.exec = Jvm.exec) (hZ : Z.Warmed39 s.vm) {own C : String} {index : Nat} {y : MethodName} {bytes : ByteArray} {maxL : Nat} {ret : Option FieldType}
    (hown : s.vm.findClass own = some m.cls) (w1 : (Jvm.Cond.methodLink own index y).before a0 Z = true) (w2 : (Jvm.Cond.instanceMethod y).before a0 Z = true) (w3 : (Jvm.Cond.selects y.cls y y).before a0 Z = true) (w4 : (Jvm.Cond.privateMethod y).before a0 Z = true) (w5 : (Jvm.Cond.code y bytes maxL ret).before a0 Z = true) (hy : y.cls ≠ "java/lang/invoke/MethodHandle" ∧ y.cls ≠ "java/lang/invoke/VarHandle")
    {W kc ks : Nat} {as : Array Value} {Q : Option Value → Heap → List Loc → Prop} (hK : o_Bk l R p e below s args y 3 W as h kc ks Q) (eT : T.heap = h) {b : Addr} (E : Exa Z h b C) (hc : cells + kc ≤ R.cells) (hs : slots + ks ≤ R.slots)
    {g : JFrame} (hg : g.method = m) (hsize : g.locals.size = c.maxLocals) {argsL rest : List Value} (hlen : ∀ sig, parseMethodDescriptor y.desc = some sig → argsL.length = sig.parameters.length) (hstack : g.stack = argsL.reverse ++ .ref b :: rest) (has : (.ref b :: argsL).toArray = as) (hW : 2 * g.monitorRoom + (rest.map fun v => v.category).sum ≤ W) (hdg : decode c.code g.pc = .ok (.invokevirtual index, 3)) :
    ∃ (T' : State) (v : Option Value) (L : List Loc) (h' : Heap), Stand p l e R s m args below meth c T' (locs ++ L) (cells + kc) (slots + ks) ∧ T'.heap = h' ∧ Q v h' L ∧ ∀ t, Steps p.tables e below (T'.setTop { g with pc := g.pc + 3, stack := v.toList ++ rest }) t → Steps p.tables e below (T.setTop g) t := by
  obtain ⟨cq, q1, q2⟩ := E.cell
  obtain ⟨v, _, ⟨T', L', k', n'⟩, -, X', ⟨L, hQ, l1, y1, z1⟩, st⟩ := X.privateBack hx hown (mvT hZ w1) (mvT hZ w2) (mvT hZ w3) (Cond.privateMethod_at (mvP hZ w4 (args := #[]))) (mvT hZ w5) hy hK hg hsize (Steps.refl _) (a := b) (by rw [eT]; exact q1) q2 hlen hstack hW hdg (fun _ _ => ⟨has, eT, hc, hs⟩)
  dsimp only [Pt.U, Pt.locs, Pt.cells, Pt.slots] at X' hQ l1 y1 z1 st
  subst l1 y1 z1
  exact ⟨T', v, L, _, X', rfl, hQ, fun t k => st.trans k⟩
theorem o_callU (X : Stand p l e R s m args below meth c T locs cells slots) (hx : p.tables.exec = Jvm.exec) (hZ : Z.Warmed39 s.vm) {own C : String} {index : Nat} {y : MethodName} {bytes : ByteArray} {maxL : Nat} {ret : Option FieldType}
    (hown : s.vm.findClass own = some m.cls) (w1 : (Jvm.Cond.methodLink own index y).before a0 Z = true) (w2 : (Jvm.Cond.sameMethod y.cls y.cls y.name y.desc).before a0 Z = true) (w3 : (Jvm.Cond.instanceMethod y).before a0 Z = true) (w4 : (Jvm.Cond.superclass own y.cls).before a0 Z = true) (hn : y.name ≠ "<init>") (w5 : (Jvm.Cond.code y bytes maxL ret).before a0 Z = true)
    {W kc ks : Nat} {as : Array Value} {Q : Option Value → Heap → List Loc → Prop} (hK : o_Bk l R p e below s args y 3 W as h kc ks Q) (eT : T.heap = h) {b : Addr} (E : Exa Z h b C) (hc : cells + kc ≤ R.cells) (hs : slots + ks ≤ R.slots)
    {g : JFrame} (hg : g.method = m) (hsize : g.locals.size = c.maxLocals) {argsL rest : List Value} (hlen : ∀ sig, parseMethodDescriptor y.desc = some sig → argsL.length = sig.parameters.length) (hstack : g.stack = argsL.reverse ++ .ref b :: rest) (has : (.ref b :: argsL).toArray = as) (hW : 2 * g.monitorRoom + (rest.map fun v => v.category).sum ≤ W) (hdg : decode c.code g.pc = .ok (.invokespecial index, 3)) :
    ∃ (T' : State) (v : Option Value) (L : List Loc) (h' : Heap), Stand p l e R s m args below meth c T' (locs ++ L) (cells + kc) (slots + ks) ∧ T'.heap = h' ∧ Q v h' L ∧ ∀ t, Steps p.tables e below (T'.setTop { g with pc := g.pc + 3, stack := v.toList ++ rest }) t → Steps p.tables e below (T.setTop g) t := by
  obtain ⟨v, _, ⟨T', L', k', n'⟩, -, X', ⟨L, hQ, l1, y1, z1⟩, st⟩ := superBack X hx hZ hown w1 w2 w3 w4 hn hK eT (Ins.self E) hg hsize w5 hlen hstack hW hdg (fun _ _ => ⟨has, eT, hc, hs⟩)
  dsimp only [Pt.U, Pt.locs, Pt.cells, Pt.slots] at X' hQ l1 y1 z1 st
  subst l1 y1 z1
  exact ⟨T', v, L, _, X', rfl, hQ, fun t k => st.trans k⟩
end OwnPriv
end Jvm.Pilot.@@N@@
/- own kit A: lists of bytes; array copies of bytes; Strings whose byte array is named -/
namespace Jvm.Pilot.@@N@@
open Jvm Jvm.ClassFile Sem Op Lib Jvm.Free Jvm.Stand Jvm.LawKit Jvm.RoadKit Bundle Jvm.Pilot.@@N@@.Jvm.D
section OwnBytes
theorem o_tks {α : Type} (x : α) : ∀ (vs : List α) (n : Nat), n < vs.length → (vs.set n x).take (n + 1) = vs.take n ++ [x]
  | [], _, h => nomatch h
  | _ :: _, 0, _ => rfl
  | a :: vs, n + 1, h => by
    have := o_tks x vs n (Nat.lt_of_succ_lt_succ h)
    simp only [List.set_cons_succ, List.take_succ_cons, List.cons_append, this]
theorem o_tks2 {α : Type} (x y : α) (vs : List α) (n : Nat) (h : n + 1 < vs.length) : ((vs.set n x).set (n + 1) y).take (n + 1 + 1) = vs.take n ++ [x, y] := by
  rw [o_tks _ _ _ (by rw [List.length_set]; exact h), o_tks _ _ _ (by omega), List.append_assoc]; rfl
theorem o_wapp : ∀ (a b : List Int32), StrChars.Road.wideBytes (a ++ b) = StrChars.Road.wideBytes a ++ StrChars.Road.wideBytes b
  | [], _ => rfl
  | c :: a, b => by simp only [List.cons_append, StrChars.Road.wideBytes, o_wapp a b]
theorem o_wlen : ∀ (a : List Int32), (StrChars.Road.wideBytes a).length = 2 * a.length
  | [] => rfl
  | c :: a => by simp only [StrChars.Road.wideBytes, List.length_cons, o_wlen a]; omega
theorem o_wdrop : ∀ (a : List Int32) (u : Nat), (StrChars.Road.wideBytes a).drop (2 * u) = StrChars.Road.wideBytes (a.drop u)
  | _, 0 => rfl
  | [], u + 1 => by simp [StrChars.Road.wideBytes]
  | c :: a, u + 1 => by rw [show 2 * (u + 1) = 2 * u + 1 + 1 from by omega]; simp only [StrChars.Road.wideBytes, List.drop_succ_cons, o_wdrop a u]
theorem o_wtake : ∀ (a : List Int32) (u : Nat), (StrChars.Road.wideBytes a).take (2 * u) = StrChars.Road.wideBytes (a.take u)
  | _, 0 => rfl
  | [], u + 1 => by simp [StrChars.Road.wideBytes]
  | c :: a, u + 1 => by rw [show 2 * (u + 1) = 2 * u + 1 + 1 from by omega]; simp only [StrChars.Road.wideBytes, List.take_succ_cons, o_wtake a u]
theorem o_tkg {α : Type} {vs L : List α} {n i : Nat} {d : α} (h : vs.take n = L) (hi : i < n) : vs.getD i d = L.getD i d := by
  rw [← h, List.getD_eq_getElem?_getD, List.getD_eq_getElem?_getD, List.getElem?_take_of_lt hi]
theorem o_rng {α : Type} (vs : List α) (d : α) (a n : Nat) (h : a + n ≤ vs.length) : (List.range n).map (fun i => vs.getD (a + i) d) = (vs.drop a).take n := by
  apply List.ext_getElem?
  intro i
  by_cases hi : i < n
  · rw [List.getElem?_map, List.getElem?_range hi, List.getElem?_take_of_lt hi, List.getElem?_drop]
    show some (vs.getD (a + i) d) = _
    rw [List.getD_eq_getElem?_getD, List.getElem?_eq_getElem (by omega : a + i < vs.length)]; rfl
  · rw [List.getElem?_eq_none (by simp; omega), List.getElem?_eq_none (by simp; omega)]
theorem o_tkS (cs : List Int32) (i : Nat) (h : i < cs.length) : cs.take (i + 1) = cs.take i ++ [cs.getD i 0] := by
  rw [List.take_add_one, List.getElem?_eq_getElem h, List.getD_eq_getElem?_getD, List.getElem?_eq_getElem h]; rfl
theorem o_loM : ∀ k : Fin 256, (StrChars.lo8 (Int32.ofNat k.val) &&& (255 : Int32)) = Int32.ofNat k.val := by decide +kernel
theorem o_lom {c : Int32} (h0 : ¬ c < 0) (h1 : ¬ (255 : Int32) < c) : (StrChars.lo8 c &&& (255 : Int32)) = c := by
  rw [o_lt] at h0 h1
  have e1 : (255 : Int32).toInt = 255 := rfl
  have e2 : (0 : Int32).toInt = 0 := rfl
  obtain ⟨n, rfl, q⟩ := o_exN (x := c) (by omega)
  exact o_loM ⟨n, by omega⟩
theorem o_sub16N : ∀ k : Fin 17, ¬ (0 : Int32) < Int32.ofNat k.val - Int32.ofNat 16 := by decide +kernel
theorem o_sub16 {k : Nat} (h : k ≤ 16) : ¬ (0 : Int32) < Int32.ofNat k - Int32.ofNat 16 := o_sub16N ⟨k, by omega⟩
theorem o_orA {a b n : Nat} {ws : List Nat} (h : a = b ∨ n ≤ a) (hm : b ∈ ws) : a ∈ ws ∨ n ≤ a := h.imp_left (fun (q : a = b) => by rw [q]; exact hm)
/-- latin bytes over the first places -/
def uU (cs : List Int32) (vs : List Value) : Prop := vs.take cs.length = (cs.map fun c => Value.int (StrChars.lo8 c))
def o_wid (cs : List Int32) (vs : List Value) : Prop := vs.take (2 * cs.length) = StrChars.Road.wideBytes cs
theorem uU.put {cs : List Int32} {vs : List Value} (H : uU cs vs) (h : cs.length < vs.length) (c : Int32) : uU (cs ++ [c]) (vs.set cs.length (.int (StrChars.lo8 c))) := by
  unfold uU at *
  rw [List.length_append, List.length_singleton, o_tks _ _ _ h, H, List.map_append]; rfl
theorem o_wid.put {cs : List Int32} {vs : List Value} (H : o_wid cs vs) (h : 2 * cs.length + 1 < vs.length) (c : Int32) : o_wid (cs ++ [c]) ((vs.set (2 * cs.length) (.int (StrChars.lo8 c))).set (2 * cs.length + 1) (.int (StrChars.hi8 c))) := by
  unfold o_wid at *
  rw [List.length_append, List.length_singleton, show 2 * (cs.length + 1) = 2 * cs.length + 1 + 1 from by omega, o_tks2 _ _ _ _ h, H, o_wapp]; rfl
theorem uU.nil (vs : List Value) : uU [] vs := rfl
theorem o_wid.nil (vs : List Value) : o_wid [] vs := rfl
theorem uU.get {cs : List Int32} {vs : List Value} (H : uU cs vs) {i : Nat} (hi : i < cs.length) : vs.getD i (.int 0) = .int (StrChars.lo8 (cs.getD i 0)) := by
  rw [o_tkg H hi]
  simp [List.getD_eq_getElem?_getD, List.getElem?_map, List.getElem?_eq_getElem hi]
/-- a stretch copied behind it -/
theorem uU.cpy {cs tx : List Int32} {vs vd : List Value} {i n : Nat} (H : uU cs vs) (hn : i + n ≤ tx.length) (e : vd.take (cs.length + n) = vs.take cs.length ++ ((tx.map fun c => Value.int (StrChars.lo8 c)).drop i).take n) : uU (cs ++ (tx.drop i).take n) vd := by
  unfold uU at *
  have el : (cs ++ (tx.drop i).take n).length = cs.length + n := by rw [List.length_append, List.length_take, List.length_drop]; omega
  rw [el, e, H, List.map_append, List.map_take, List.map_drop]
theorem o_wid.cpy {cs tx : List Int32} {vs vd : List Value} {i n : Nat} (H : o_wid cs vs) (hn : i + n ≤ tx.length) (e : vd.take (2 * cs.length + 2 * n) = vs.take (2 * cs.length) ++ ((StrChars.Road.wideBytes tx).drop (2 * i)).take (2 * n)) : o_wid (cs ++ (tx.drop i).take n) vd := by
  unfold o_wid at *
  have el : (cs ++ (tx.drop i).take n).length = cs.length + n := by rw [List.length_append, List.length_take, List.length_drop]; omega
  rw [el, Nat.mul_add, e, H, o_wapp, o_wdrop, o_wtake]
theorem o_subdt {tx : List Int32} {i j k : Nat} (h1 : i ≤ j) (h2 : j ≤ k) : (tx.drop i).take (j - i) ++ (tx.drop j).take (k - j) = (tx.drop i).take (k - i) := by
  rw [show k - i = (j - i) + (k - j) from by omega, List.take_add, List.drop_drop, show i + (j - i) = j from by omega]
theorem o_memdr {α : Type} {vs : List α} {i n : Nat} {c : α} (h : c ∈ (vs.drop i).take n) : c ∈ vs := List.mem_of_mem_drop (List.mem_of_mem_take h)
theorem o_dtS {tx : List Int32} {i u : Nat} (h1 : i ≤ u) (h2 : u < tx.length) : (tx.drop i).take (u + 1 - i) = (tx.drop i).take (u - i) ++ [tx.getD u 0] := by
  rw [← o_subdt (tx := tx) (i := i) (j := u) (k := u + 1) h1 (by omega), show u + 1 - u = 1 from by omega]
  congr 1
  rw [List.drop_eq_getElem_cons h2, List.getD_eq_getElem?_getD, List.getElem?_eq_getElem h2]; rfl
end OwnBytes
section OwnCopy
variable {p : Program} {l : Launch} {e : Env} {R : Room} {s : State} {m : MethodId} {args : Array Value} {below : List Frame} {meth : Method} {c : Code} {T : State} {locs : List Loc} {cells slots : Nat} {Z : State} {a0 : Array Value} {h h' : Heap}
theorem o_cpB (X : Stand p l e R s m args below meth c T locs cells slots) (hx : p.tables.exec = Jvm.exec) (hZ : Z.Warmed39 s.vm) {own : String} {index : Nat} (hown : s.vm.findClass own = some m.cls)
    (w1 : (Cond.methodLink own index Jvm.Stand.acN).before a0 Z = true) (w2 : (Cond.native Jvm.Stand.acN).before a0 Z = true) (w3 : (Cond.static Jvm.Stand.acN).before a0 Z = true) (w4 : (Cond.initialized "java/lang/System").before a0 Z = true) (eT : T.heap = h)
    {a b : Addr} {k k' : ClassId} {na nb sp dp n : Nat} {vs vd : List Value} (A : Arv Z h a k .byte (Int32.ofNat na) vs (.int 0)) (B : Arv Z h b k' .byte (Int32.ofNat nb) vd (.int 0)) (hva : vs.length = na) (hvb : vd.length = nb) (h1 : sp + n ≤ na) (h2 : dp + n ≤ nb) (ha : na < 2147483648) (hb : nb < 2147483648) {n0 : Nat} (N : Fr n0 locs) (ge : n0 ≤ b)
    {g : JFrame} (hg : g.method = m) (hsize : g.locals.size = c.maxLocals) {rest : List Value} (hs : g.stack = .int (Int32.ofNat n) :: .int (Int32.ofNat dp) :: .ref b :: .int (Int32.ofNat sp) :: .ref a :: rest) (hd : decode c.code g.pc = .ok (.invokestatic index, 3))
    (hf : 1 ≤ R.frames) {W : Nat} (hW : 2 * g.monitorRoom + (rest.map fun v => v.category).sum ≤ W) (hlo : W + (nativeFrameWords "java/lang/System" "arraycopy" 5 + 11) ≤ R.locals) :
    ∃ (T' : State) (h' : Heap) (L : List Loc) (vd' : List Value), Stand p l e R s m args below meth c T' L cells slots ∧ T'.heap = h' ∧ Fr n0 L ∧ Keep h h' [b] ∧ Arv Z h' b k' .byte (Int32.ofNat nb) vd' (.int 0) ∧ vd'.length = nb ∧ vd'.take (dp + n) = vd.take dp ++ (vs.drop sp).take n ∧
      ∀ target, Steps p.tables e below (T'.setTop { g with pc := g.pc + 3, stack := rest }) target → Steps p.tables e below (T.setTop g) target := by
  obtain ⟨T', h', L, X', e', N', K', V', st⟩ := cpA X hx hZ hown w1 w2 w3 w4 eT A B (Or.inl ⟨rfl, rfl⟩) (uK (by omega)) (uK (by omega)) (uK (by omega)) (by rw [qU (by omega), qU (by omega), qU (by omega)]; omega) (by rw [qU (by omega), qU (by omega), qU (by omega)]; omega) rfl (by rw [qU (by omega), qU (by omega)]; omega) N ge hg hsize hs hd hf hW hlo
  rw [qU (by omega : dp < 2147483648), qU (by omega : n < 2147483648), qU (by omega : sp < 2147483648), o_rng vs (.int 0) sp n (by omega)] at V'
  have el : (vd.take dp ++ (vs.drop sp).take n).length = dp + n := by rw [List.length_append, List.length_take, List.length_take, List.length_drop]; omega
  refine ⟨T', h', L, _, X', e', N', K', V', ?_, List.take_left' el, st⟩
  rw [List.length_append, el, List.length_drop]; omega
def yU (Z : State) (h : Heap) (x t : Nat) (cs : List Int32) : Prop := Exa Z h x "java/lang/String" ∧ ∃ (kb : ClassId) (cd N2 : Int32) (vs : List Value), Fld Z h x "java/lang/String" "value" "[B" (.ref t) ∧ Fld Z h x "java/lang/String" "coder" "B" (.int cd) ∧ Arv Z h t kb .byte N2 vs (.int 0) ∧ StrChars.Road.CodA cs cd N2 vs ∧ (∀ c ∈ cs, ¬ c < 0 ∧ ¬ (65535 : Int32) < c) ∧ cs.length ≤ 4000
theorem yU.str {x t : Nat} {cs : List Int32} (S : yU Z h x t cs) : qQ Z h x cs := ⟨S.1, t, S.2⟩
theorem qQ.tt {x : Nat} {cs : List Int32} (S : qQ Z h x cs) : ∃ t : Nat, yU Z h x t cs := by obtain ⟨E, t, r⟩ := S; exact ⟨t, E, r⟩
theorem yU.keep {x t : Nat} {cs : List Int32} {ws : List Nat} (S : yU Z h x t cs) (K : Keep h h' ws) (q1 : x ∉ ws) (q2 : t ∉ ws) : yU Z h' x t cs := by
  obtain ⟨E, kb, cd, N2, vs, F1, F2, A, r⟩ := S
  exact ⟨E.keep K, kb, cd, N2, vs, F1.keep K q1, F2.keep K q1, A.keep K q2, r⟩
theorem yU.lt {x t : Nat} {cs : List Int32} (S : yU Z h x t cs) : x < h.size ∧ t < h.size := by
  obtain ⟨E, kb, cd, N2, vs, F1, F2, A, r⟩ := S
  exact ⟨E.lt, A.lt⟩
def o_SBv (cs : List Int32) (cd N : Int32) (vs : List Value) : Prop := (cd = 0 ∧ N = Int32.ofNat 16 ∧ vs.length = 16 ∧ uU cs vs ∧ ∀ c ∈ cs, ¬ (255 : Int32) < c) ∨ (cd = 1 ∧ N = Int32.ofNat (2 * 16) ∧ vs.length = 2 * 16 ∧ o_wid cs vs ∧ ∃ c ∈ cs, (255 : Int32) < c)
def uM (Z : State) (h : Heap) (x t : Nat) (kb : ClassId) (cs : List Int32) : Prop := Exa Z h x "java/lang/StringBuilder" ∧ ∃ (cd N : Int32) (vs : List Value), Fld Z h x "java/lang/AbstractStringBuilder" "value" "[B" (.ref t) ∧ Fld Z h x "java/lang/AbstractStringBuilder" "coder" "B" (.int cd) ∧ Fld Z h x "java/lang/AbstractStringBuilder" "count" "I" (.int (Int32.ofNat cs.length)) ∧ Fld Z h x "java/lang/AbstractStringBuilder" "maybeLatin1" "Z" (.int 0) ∧ Arv Z h t kb .byte N vs (.int 0) ∧ o_SBv cs cd N vs ∧ (∀ c ∈ cs, ¬ c < 0 ∧ ¬ (65535 : Int32) < c) ∧ x ≠ t
theorem uM.keep {x t : Nat} {kb : ClassId} {cs : List Int32} {ws : List Nat} (S : uM Z h x t kb cs) (K : Keep h h' ws) (q1 : x ∉ ws) (q2 : t ∉ ws) : uM Z h' x t kb cs := by
  obtain ⟨E, cd, N, vs, F1, F2, F3, F4, A, r⟩ := S
  exact ⟨E.keep K, cd, N, vs, F1.keep K q1, F2.keep K q1, F3.keep K q1, F4.keep K q1, A.keep K q2, r⟩
theorem uM.lt {x t : Nat} {kb : ClassId} {cs : List Int32} (S : uM Z h x t kb cs) : x < h.size ∧ t < h.size := by
  obtain ⟨E, cd, N, vs, F1, F2, F3, F4, A, r⟩ := S
  exact ⟨E.lt, A.lt⟩
end OwnCopy
end Jvm.Pilot.@@N@@
/- own kit L: lists (ArrayList, immutable lists), class objects -/
namespace Jvm.Pilot.@@N@@
open Jvm Jvm.ClassFile Sem Op Lib Jvm.Free Jvm.Stand Jvm.LawKit Jvm.RoadKit Bundle Jvm.Pilot.@@N@@.Jvm.D
section OwnLists
variable {p : Program} {l : Launch} {e : Env} {R : Room} {s : State} {m : MethodId} {args : Array Value} {below : List Frame} {meth : Method} {c : Code} {T : State} {locs : List Loc} {cells slots : Nat} {Z : State} {a0 : Array Value} {h h' : Heap} {a : Addr}
def o_MM (Z : State) (C : String) (mr : Nat) : Prop := ∃ (c : ClassId) (k : Class), Z.vm.findClass C = some c ∧ Z.vm.classes[c]? = some k ∧ k.mirror = some mr
theorem o_gcls (X : Stand p l e R s m args below meth c T locs cells slots) (hx : p.tables.exec = Jvm.exec) (hZ : Z.Warmed39 s.vm) {own C : String} {index : Nat} (hown : s.vm.findClass own = some m.cls)
    (w1 : (Cond.methodLink own index ⟨"java/lang/Object", "getClass", "()Ljava/lang/Class;"⟩).before a0 Z = true) (w2 : (Cond.declares ⟨"java/lang/Object", "getClass", "()Ljava/lang/Class;"⟩).before a0 Z = true) (w3 : (Cond.noSuperclass "java/lang/Object").before a0 Z = true) (w4 : (Cond.selects C ⟨"java/lang/Object", "getClass", "()Ljava/lang/Class;"⟩ ⟨"java/lang/Object", "getClass", "()Ljava/lang/Class;"⟩).before a0 Z = true)
    (w5 : (Cond.instanceMethod ⟨"java/lang/Object", "getClass", "()Ljava/lang/Class;"⟩).before a0 Z = true) (w6 : (Cond.native ⟨"java/lang/Object", "getClass", "()Ljava/lang/Class;"⟩).before a0 Z = true) (eT : T.heap = h) (E : Exa Z h a C) {mr : Nat} (M : o_MM Z C mr)
    {g : JFrame} (hg : g.method = m) (hsize : g.locals.size = c.maxLocals) {rest : List Value} (hs : g.stack = .ref a :: rest) (hd : decode c.code g.pc = .ok (.invokevirtual index, 3)) (hf : 1 ≤ R.frames) {W : Nat} (hW : 2 * g.monitorRoom + (rest.map fun v => v.category).sum ≤ W) (hl : W + (nativeFrameWords "java/lang/Object" "getClass" 1 + 11) ≤ R.locals) :
    ∃ T', Stand p l e R s m args below meth c T' locs cells slots ∧ T'.heap = h ∧ ∀ target, Steps p.tables e below (T'.setTop { g with pc := g.pc + 3, stack := .ref mr :: rest }) target → Steps p.tables e below (T.setTop g) target := by
  obtain ⟨cB, kB, i1, i2, i3⟩ := isOf hZ eT E
  obtain ⟨cc, kc, m1, m2, m3⟩ := M
  rw [hZ.alike.findClass] at i1
  cases i1.symm.trans m1
  obtain ⟨k', q, ek⟩ := hZ.alike.2.2 _ _ m2
  obtain ⟨vm', X', st⟩ := X.getClassOf hx hown (mvT hZ w1) (mvT hZ w2) (nf_top (args := #[]) (mvT hZ w3)) (mvT hZ w4) (mvT hZ w5) (mvT hZ w6) (by rw [hZ.alike.findClass]; exact m1) i3 q (by rw [ek]; exact m3) hg hsize hs hd hf (by omega)
  exact ⟨_, X', eT, st⟩
theorem o_ldcM (X : Stand p l e R s m args below meth c T locs cells slots) (hx : p.tables.exec = Jvm.exec) (hZ : Z.Warmed39 s.vm) {own C : String} {index : Nat} (hown : s.vm.findClass own = some m.cls) (w : (Cond.classLink own index C).before a0 Z = true) (eT : T.heap = h) {mr : Nat} (M : o_MM Z C mr)
    {g : JFrame} (hg : g.method = m) (hd : decode c.code g.pc = .ok (.ldc index, 2)) :
    ∃ T', Stand p l e R s m args below meth c T' locs cells slots ∧ T'.heap = h ∧ ∀ target, Steps p.tables e below (T'.setTop { g with pc := g.pc + 2, stack := .ref mr :: g.stack }) target → Steps p.tables e below (T.setTop g) target := by
  obtain ⟨cc, kc, m1, m2, m3⟩ := M
  obtain ⟨k', q, ek⟩ := hZ.alike.2.2 _ _ m2
  have m3' : k'.mirror = some mr := by rw [ek]; exact m3
  obtain ⟨vm', X', st⟩ := X.ldcMirror hx hown (mv hZ w) (a := mr) (by simp [Term.eval, hZ.alike.findClass, m1, q, m3']) hg hd
  exact ⟨_, X', eT, st⟩
abbrev uW : FieldType := .object "java/lang/Object"
def o_DE (Z : State) (D : Nat) : Prop := Sta Z Z.heap "java/util/ArrayList" "DEFAULTCAPACITY_EMPTY_ELEMENTDATA" "[Ljava/lang/Object;" (.ref D) ∧ ∃ k : ClassId, Arv Z Z.heap D k uW 0 [] .null
def o_EM (Z : State) (em : Nat) : Prop := Sta Z Z.heap "java/util/ImmutableCollections" "EMPTY" "Ljava/lang/Object;" (.ref em) ∧ em < Z.heap.size
def o_E0 (Z : State) (b : Nat) : Prop := Sta Z Z.heap "java/util/ImmutableCollections" "EMPTY_LIST" "Ljava/util/ImmutableCollections$ListN;" (.ref b) ∧ Exa Z Z.heap b "java/util/ImmutableCollections$ListN" ∧ ∃ (ea : Nat) (k : ClassId), Fld Z Z.heap b "java/util/ImmutableCollections$ListN" "elements" "[Ljava/lang/Object;" (.ref ea) ∧ Arv Z Z.heap ea k uW 0 [] .null
/-- an ArrayList of at most ten: x the object, y what its next write touches beside it -/
def o_AL (Z : State) (h : Heap) (x y : Nat) (rs : List Nat) : Prop := Exa Z h x "java/util/ArrayList" ∧ ∃ (ea : Nat) (mc : Int32), Fld Z h x "java/util/AbstractList" "modCount" "I" (.int mc) ∧ Fld Z h x "java/util/ArrayList" "size" "I" (.int (Int32.ofNat rs.length)) ∧ Fld Z h x "java/util/ArrayList" "elementData" "[Ljava/lang/Object;" (.ref ea) ∧
  ((rs = [] ∧ x = y ∧ o_DE Z ea) ∨ (ea = y ∧ x ≠ ea ∧ ∃ (kE : ClassId) (vs : List Value), Arv Z h ea kE uW (Int32.ofNat 10) vs .null ∧ Exa Z h ea "[Ljava/lang/Object;" ∧ Ovr Z kE "java/lang/Object" ∧ vs.length = 10 ∧ vs.take rs.length = rs.map Value.ref))
theorem o_AL.keep {x y : Nat} {rs ws : List Nat} (S : o_AL Z h x y rs) (K : Keep h h' ws) (q1 : x ∉ ws) (q2 : y ∉ ws) : o_AL Z h' x y rs := by
  obtain ⟨E, ea, mc, F1, F2, F3, r⟩ := S
  refine ⟨E.keep K, ea, mc, F1.keep K q1, F2.keep K q1, F3.keep K q1, r.imp id ?_⟩
  rintro ⟨rfl, q3, kE, vs, A, E2, r⟩
  exact ⟨rfl, q3, kE, vs, A.keep K q2, E2.keep K, r⟩
theorem o_AL.lt {x y : Nat} {rs : List Nat} (S : o_AL Z h x y rs) : x < h.size ∧ y < h.size := by
  obtain ⟨E, ea, mc, F1, F2, F3, r⟩ := S
  rcases r with ⟨-, rfl, -⟩ | ⟨rfl, -, kE, vs, A, -⟩
  · exact ⟨E.lt, E.lt⟩
  · exact ⟨E.lt, A.lt⟩
theorem o_StoL {b : Addr} : ∀ (rs : List Nat), (∀ r ∈ rs, Sto Z h b (.ref r)) → StoL Z h b (rs.map Value.ref)
  | [], _ => trivial
  | r :: rs, q => ⟨q r (by simp), o_StoL rs fun r hr => q r (List.mem_cons_of_mem _ hr)⟩
/-- the fields' Strings: rs the objects, ts their byte arrays -/
def qT (Z : State) (h : Heap) : List Nat → List Nat → List (List Int32) → Prop
  | [], [], [] => True
  | r :: rs, t :: ts, f :: fs => yU Z h r t f ∧ qT Z h rs ts fs
  | _, _, _ => False
theorem qT.keep {ws : List Nat} (K : Keep h h' ws) : ∀ {rs ts : List Nat} {fs : List (List Int32)}, qT Z h rs ts fs → (∀ w ∈ ws, ∀ r ∈ rs ++ ts, r ≠ w) → qT Z h' rs ts fs
  | [], [], [], _, _ => trivial
  | r :: rs, t :: ts, f :: fs, S, q => ⟨S.1.keep K (fun z => q _ z r (by simp) rfl) (fun z => q _ z t (by simp) rfl), qT.keep K S.2 fun w hw r' hr => q w hw r' (by
      rcases List.mem_append.mp hr with u | u
      · exact List.mem_append_left _ (List.mem_cons_of_mem _ u)
      · exact List.mem_append_right _ (List.mem_cons_of_mem _ u))⟩
  | [], _ :: _, _, S, _ => S.elim
  | [], [], _ :: _, S, _ => S.elim
  | _ :: _, [], _, S, _ => S.elim
  | _ :: _, _ :: _, [], S, _ => S.elim
theorem qT.snoc {r t : Nat} {f : List Int32} (q : yU Z h r t f) : ∀ {rs ts : List Nat} {fs : List (List Int32)}, qT Z h rs ts fs → qT Z h (rs ++ [r]) (ts ++ [t]) (fs ++ [f])
  | [], [], [], _ => ⟨q, trivial⟩
  | _ :: rs, _ :: ts, _ :: fs, S => ⟨S.1, qT.snoc q S.2⟩
  | [], _ :: _, _, S => S.elim
  | [], [], _ :: _, S => S.elim
  | _ :: _, [], _, S => S.elim
  | _ :: _, _ :: _, [], S => S.elim
theorem qT.len : ∀ {rs ts : List Nat} {fs : List (List Int32)}, qT Z h rs ts fs → rs.length = fs.length ∧ ts.length = fs.length
  | [], [], [], _ => ⟨rfl, rfl⟩
  | _ :: rs, _ :: ts, _ :: fs, S => by have := qT.len S.2; simp only [List.length_cons]; omega
  | [], _ :: _, _, S => S.elim
  | [], [], _ :: _, S => S.elim
  | _ :: _, [], _, S => S.elim
  | _ :: _, _ :: _, [], S => S.elim
theorem qT.exa : ∀ {rs ts : List Nat} {fs : List (List Int32)}, qT Z h rs ts fs → ∀ r ∈ rs, Exa Z h r "java/lang/String"
  | [], [], [], _ => fun _ q => nomatch q
  | _ :: rs, _ :: ts, _ :: fs, S => fun r q => (List.mem_cons.mp q).elim (fun u => u ▸ S.1.1) (qT.exa S.2 r)
  | [], _ :: _, _, S => S.elim
  | [], [], _ :: _, S => S.elim
  | _ :: _, [], _, S => S.elim
  | _ :: _, _ :: _, [], S => S.elim
/-- an immutable list of up to three: b the object, u its array (or itself) -/
def o_LS (Z : State) (h : Heap) (n0 : Nat) (b u : Nat) : List Nat → Prop
  | [] => o_E0 Z b
  | [r0] => ∃ em : Nat, o_EM Z em ∧ Exa Z h b "java/util/ImmutableCollections$List12" ∧ Fld Z h b "java/util/ImmutableCollections$List12" "e0" "Ljava/lang/Object;" (.ref r0) ∧ Fld Z h b "java/util/ImmutableCollections$List12" "e1" "Ljava/lang/Object;" (.ref em)
  | [r0, r1] => n0 ≤ r1 ∧ Exa Z h b "java/util/ImmutableCollections$List12" ∧ Fld Z h b "java/util/ImmutableCollections$List12" "e0" "Ljava/lang/Object;" (.ref r0) ∧ Fld Z h b "java/util/ImmutableCollections$List12" "e1" "Ljava/lang/Object;" (.ref r1)
  | [r0, r1, r2] => Exa Z h b "java/util/ImmutableCollections$ListN" ∧ ∃ k : ClassId, Fld Z h b "java/util/ImmutableCollections$ListN" "elements" "[Ljava/lang/Object;" (.ref u) ∧ Arv Z h u k uW (3 : Int32) [.ref r0, .ref r1, .ref r2] .null
  | _ => False
theorem o_LS.keep {n0 b u : Nat} {ws : List Nat} (K : Keep h h' ws) (q1 : b ∉ ws) (q2 : u ∉ ws) : ∀ {rs : List Nat}, o_LS Z h n0 b u rs → o_LS Z h' n0 b u rs
  | [], S => S
  | [_], ⟨em, EM, E, F1, F2⟩ => ⟨em, EM, E.keep K, F1.keep K q1, F2.keep K q1⟩
  | [_, _], ⟨q, E, F1, F2⟩ => ⟨q, E.keep K, F1.keep K q1, F2.keep K q1⟩
  | [_, _, _], ⟨E, k, F1, A⟩ => ⟨E.keep K, k, F1.keep K q1, A.keep K q2⟩
  | _ :: _ :: _ :: _ :: _, S => S.elim
def o_Row (Z : State) (h : Heap) (n0 x : Nat) (ln : Int32) (rs : List Nat) (fv : Value) : Prop := Exa Z h x "com/example/shelfproof/shelfproof/csv/Csv$Row" ∧ Fld Z h x "com/example/shelfproof/shelfproof/csv/Csv$Row" "line" "I" (.int ln) ∧ Fld Z h x "com/example/shelfproof/shelfproof/csv/Csv$Row" "fault" "Ljava/lang/String;" fv ∧ ∃ b u : Nat, Fld Z h x "com/example/shelfproof/shelfproof/csv/Csv$Row" "fields" "Ljava/util/List;" (.ref b) ∧ o_LS Z h n0 b u rs
theorem o_Row.keep {n0 x : Nat} {ln : Int32} {rs : List Nat} {fv : Value} (S : o_Row Z h n0 x ln rs fv) (K : Keep h h' []) (_ : x ∉ ([] : List Nat)) : o_Row Z h' n0 x ln rs fv := by
  obtain ⟨E, F1, F2, b, u, F3, L⟩ := S
  exact ⟨E.keep K, F1.keep K nin0, F2.keep K nin0, b, u, F3.keep K nin0, L.keep K nin0 nin0⟩
theorem o_noIns3 {C S1 S2 S3 K : String} {n : Nat} (w : (Jvm.Cond.superclass C S1).before a0 Z = true) (v1 : (Jvm.Cond.superclass S1 S2).before a0 Z = true) (v2 : (Jvm.Cond.superclass S2 S3).before a0 Z = true) (w0 : (Jvm.Cond.noSuperclass S3).before a0 Z = true) (wk : (Jvm.Cond.instantiable K n).before a0 Z = true) (h1 : C ≠ K) (h2 : S1 ≠ K) (h3 : S2 ≠ K) (h4 : S3 ≠ K) : ∃ c t, Z.vm.findClass C = some c ∧ Z.vm.findClass K = some t ∧ Z.vm.assignable c t = false := by
  obtain ⟨t, kt, g1, g2, g3, g4, -⟩ := Cond.instantiable_spec wk
  obtain ⟨o, ko, o1, o2, o3, -, -⟩ := Cond.noSuperclass_spec w0
  obtain ⟨c, c1⟩ := found_sup w
  obtain ⟨c', c1'⟩ := found_sup v1
  obtain ⟨c'', c1''⟩ := found_sup v2
  obtain ⟨p1, k, kp, s1, s2, s3, s4, s5, -, s7⟩ := Cond.superclass_spec c1 w
  obtain ⟨p2, k', kp', s1', s2', s3', s4', s5', -, s7'⟩ := Cond.superclass_spec c1' v1
  obtain ⟨p3, k'', kp'', s1'', s2'', s3'', s4'', s5'', -, s7''⟩ := Cond.superclass_spec c1'' v2
  cases o1.symm.trans s1''
  cases c1'.symm.trans s1
  cases c1''.symm.trans s1'
  have n1 := ids_ne c1 g1 h1
  have n2 := ids_ne c1' g1 h2
  have n3 := ids_ne c1'' g1 h3
  have n4 := ids_ne o1 g1 h4
  have q : ∀ fuel, Z.vm.isSubclassAux fuel c t = false := by
    intro fuel
    rcases fuel with _ | _ | _ | _ | f
    · rfl
    · simp [Vm.isSubclassAux, n1, s2, s4]
    · simp [Vm.isSubclassAux, n1, s2, s4, n2, s2', s4']
    · simp [Vm.isSubclassAux, n1, s2, s4, n2, s2', s4', n3, s2'', s4'']
    · simp [Vm.isSubclassAux, n1, s2, s4, n2, s2', s4', n3, s2'', s4'', n4, o2, o3]
  have g5 : kt.isInterface = false := by simp at g4; exact g4.1
  refine ⟨c, t, c1, g1, ?_⟩
  show Z.vm.assignableAux (255 + 1) c t = false
  simp [Vm.assignableAux, n1, s2, g2, s5, g3, g5, Vm.isSubclass, q]
theorem o_callIN (X : Stand p l e R s m args below meth c T locs cells slots) (hx : p.tables.exec = Jvm.exec) (hZ : Z.Warmed39 s.vm) {own host : String} {index : Nat} {y : MethodName} (hy1 : y.name = "<init>") {bytes : ByteArray} {maxL : Nat}
    (hown : s.vm.findClass own = some m.cls) (w1 : (Jvm.Cond.methodLinkNest own index y host).before a0 Z = true) (w2 : (Jvm.Cond.instanceMethod y).before a0 Z = true) (w3 : (Jvm.Cond.code y bytes maxL none).before a0 Z = true) (hy : y.cls ≠ "java/lang/invoke/MethodHandle" ∧ y.cls ≠ "java/lang/invoke/VarHandle")
    {W kc ks : Nat} {as : Array Value} {Q : Option Value → Heap → List Loc → Prop} (hK : o_Bk l R p e below s args y 3 W as h kc ks Q) (eT : T.heap = h) (hc : cells + kc ≤ R.cells) (hs : slots + ks ≤ R.slots)
    {g : JFrame} (hg : g.method = m) (hsize : g.locals.size = c.maxLocals) {a : Addr} {argsL rest : List Value} (hlen : ∀ sig, parseMethodDescriptor y.desc = some sig → argsL.length = sig.parameters.length) (hstack : g.stack = argsL.reverse ++ .ref a :: rest) (has : (.ref a :: argsL).toArray = as) (hW : 2 * g.monitorRoom + (rest.map fun v => v.category).sum ≤ W) (hdg : decode c.code g.pc = .ok (.invokespecial index, 3)) :
    ∃ (T' : State) (v : Option Value) (L : List Loc) (h' : Heap), Stand p l e R s m args below meth c T' (locs ++ L) (cells + kc) (slots + ks) ∧ T'.heap = h' ∧ Q v h' L ∧ ∀ t, Steps p.tables e below (T'.setTop { g with pc := g.pc + 3, stack := v.toList ++ rest }) t → Steps p.tables e below (T.setTop g) t := by
  obtain ⟨v, _, ⟨T', L', k', n'⟩, -, X', ⟨L, hQ, l1, y1, z1⟩, st⟩ := X.specialBackNest hx hy1 hown (Cond.methodLinkNest_wide hZ w1 :) (mvT hZ w2) (mvT hZ w3) hy hK hg hsize (Steps.refl _) hlen hstack hW hdg (fun _ _ => ⟨has, eT, hc, hs⟩)
  dsimp only [Pt.U, Pt.locs, Pt.cells, Pt.slots] at X' hQ l1 y1 z1 st
  subst l1 y1 z1
  exact ⟨T', v, L, _, X', rfl, hQ, fun t k => st.trans k⟩
theorem o_AL.grown {x y : Nat} {rs : List Nat} (S : o_AL Z h x y rs) (q : rs ≠ []) : ∃ (ea : Nat) (kE : ClassId) (vs : List Value), Fld Z h x "java/util/ArrayList" "size" "I" (.int (Int32.ofNat rs.length)) ∧ Fld Z h x "java/util/ArrayList" "elementData" "[Ljava/lang/Object;" (.ref ea) ∧ Arv Z h ea kE uW (Int32.ofNat 10) vs .null ∧ Exa Z h ea "[Ljava/lang/Object;" ∧ vs.length = 10 ∧ vs.take rs.length = rs.map Value.ref := by
  obtain ⟨E, ea, mc, F1, F2, F3, r⟩ := S
  rcases r with ⟨u, -⟩ | ⟨-, -, kE, vs, A, E2, O, r1, r2⟩
  · exact absurd u q
  · exact ⟨ea, kE, vs, F2, F3, A, E2, r1, r2⟩
theorem o_AL.size {x y : Nat} {rs : List Nat} (S : o_AL Z h x y rs) : Fld Z h x "java/util/ArrayList" "size" "I" (.int (Int32.ofNat rs.length)) := by
  obtain ⟨E, ea, mc, F1, F2, F3, r⟩ := S
  exact F2
theorem o_cpR (X : Stand p l e R s m args below meth c T locs cells slots) (hx : p.tables.exec = Jvm.exec) (hZ : Z.Warmed39 s.vm) {own : String} {index : Nat} (hown : s.vm.findClass own = some m.cls)
    (w1 : (Cond.methodLink own index Jvm.Stand.acN).before a0 Z = true) (w2 : (Cond.native Jvm.Stand.acN).before a0 Z = true) (w3 : (Cond.static Jvm.Stand.acN).before a0 Z = true) (w4 : (Cond.initialized "java/lang/System").before a0 Z = true) (eT : T.heap = h)
    {a b : Addr} {k k' : ClassId} {vs : List Value} {rs : List Nat} (A : Arv Z h a k uW (Int32.ofNat 10) vs .null) (B : Arv Z h b k' uW (Int32.ofNat rs.length) (List.replicate rs.length .null) .null) (O : Ovr Z k' "java/lang/Object") (hvl : vs.length = 10) (hvt : vs.take rs.length = rs.map Value.ref) (hl : rs.length < 10) (hI : ∀ r ∈ rs, Ins Z h r "java/lang/Object" true) {n0 : Nat} (N : Fr n0 locs) (ge : n0 ≤ b)
    {g : JFrame} (hg : g.method = m) (hsize : g.locals.size = c.maxLocals) {rest : List Value} (hs : g.stack = .int (Int32.ofNat rs.length) :: .int 0 :: .ref b :: .int 0 :: .ref a :: rest) (hd : decode c.code g.pc = .ok (.invokestatic index, 3))
    (hf : 1 ≤ R.frames) {W : Nat} (hW : 2 * g.monitorRoom + (rest.map fun v => v.category).sum ≤ W) (hlo : W + (nativeFrameWords "java/lang/System" "arraycopy" 5 + 11) ≤ R.locals) :
    ∃ (T' : State) (h' : Heap) (L : List Loc), Stand p l e R s m args below meth c T' L cells slots ∧ T'.heap = h' ∧ Fr n0 L ∧ Keep h h' [b] ∧ Arv Z h' b k' uW (Int32.ofNat rs.length) (rs.map Value.ref) .null ∧
      ∀ target, Steps p.tables e below (T'.setTop { g with pc := g.pc + 3, stack := rest }) target → Steps p.tables e below (T.setTop g) target := by
  obtain ⟨cB, ArB, qB, -⟩ := id B
  have e0 : (0 : Int32).toNatClampNeg = 0 := rfl
  obtain ⟨T', h', L, X', e', N', K', V', st⟩ := cpA X hx hZ hown w1 w2 w3 w4 eT A B (us := rs.map Value.ref) (Or.inr ⟨rfl, rfl, o_StoL rs fun r hr => Sto.ofV ArB qB O (hI r hr)⟩) (by decide) (by decide) (uK (by omega)) (by rw [e0, qU (by omega), qU (by omega)]; omega) (by rw [e0, qU (by omega)]; omega) (by rw [e0, qU (by omega), o_rng vs .null 0 rs.length (by omega), List.drop_zero, hvt]) (by rw [e0, qU (by omega), List.length_replicate]; omega) N ge hg hsize hs hd hf hW hlo
  rw [e0, qU (by omega : rs.length < 2147483648), List.take_zero, List.nil_append, List.drop_of_length_le (by rw [List.length_replicate]; omega), List.append_nil] at V'
  exact ⟨T', h', L, X', e', N', K', V', st⟩
end OwnLists
end Jvm.Pilot.@@N@@
namespace Jvm.Pilot.@@N@@
open Jvm Jvm.ClassFile Sem Op Lib Jvm.Free Jvm.Stand Jvm.LawKit Jvm.RoadKit Bundle Jvm.Pilot.@@N@@.Jvm.D
abbrev uO : List (String × Nat) := [("com/example/shelfproof/shelfproof/csv/Csv", 95), ("com/example/shelfproof/shelfproof/csv/Csv", 100), ("com/example/shelfproof/shelfproof/csv/CsvNextPinLaw", 36), ("com/example/shelfproof/shelfproof/csv/CsvNextPinLaw", 80), ("com/example/shelfproof/shelfproof/csv/CsvNextPinLaw", 82)]
set_option maxRecDepth 65536 in
theorem o_hEL {Z : State} {a0 : Array Value} (hw : ∀ d ∈ tables_1, d.before a0 Z = true) : EW Z a0 uO := (EW.cons (hw _ (List.mem_of_getElem? (i := 549) rfl)) (by decide) (EW.cons (hw _ (List.mem_of_getElem? (i := 444) rfl)) (by decide) (EW.cons (hw _ (List.mem_of_getElem? (i := 497) rfl)) (by decide) (EW.cons (hw _ (List.mem_of_getElem? (i := 447) rfl)) (by decide) (EW.cons (hw _ (List.mem_of_getElem? (i := 550) rfl)) (by decide) EW.nil)))))
end Jvm.Pilot.@@N@@
/- own kit W: walks that may intern String constants (base s.setVm vm0) -/
namespace Jvm.Pilot.@@N@@
open Jvm Jvm.ClassFile Sem Op Lib Jvm.Free Jvm.Stand Jvm.LawKit Jvm.RoadKit Bundle Jvm.Pilot.@@N@@.Jvm.D
section OwnWide
variable {p : Program} {l : Launch} {e : Env} {R : Room} {s : State} {m : MethodId} {args : Array Value} {below : List Frame} {meth : Method} {c : Code} {T : State} {locs : List Loc} {cells slots : Nat} {Z : State} {a0 : Array Value} {h h0 : Heap} {vm0 : Vm} {k0 : Nat}
abbrev o_CW (l : Launch) (Z : State) (y : MethodName) (bytes : ByteArray) (maxL : Nat) (ret : Option FieldType) (ws : List Jvm.Cond) (rm : Room) (as : Array Value) (h : Heap) (Q : Option Value → Heap → List Loc → Prop) : Prop :=
  MetFree l y (head1 (Jvm.Cond.code y bytes maxL ret :: ws) rm) (fun a U => a = as ∧ Z.Warmed39 U.vm ∧ U.heap = h ∧ CHv Z uO U.vm h) (fun _ _ _ _ _ => True) (fun _ U o U' => ∃ v L, o = .returned v ∧ Q v U'.heap L ∧ CHr Z uO U.vm U.heap U'.vm U'.heap ∧ ReturnedEndW U o U' L rm.cells rm.slots)
abbrev o_BkS (l : Launch) (R : Room) (p : Program) (e : Env) (below : List Frame) (s : State) (vm0 : Vm) (Z : State) (args : Array Value) (y : MethodName) (len W : Nat) (as : Array Value) (h : Heap) (kc ks : Nat) (Q : Option Value → Heap → List Loc → Prop) : Prop :=
  BackS l R p e below (s.setVm vm0) args y len W (fun A a => a = as ∧ A.U.heap = h ∧ A.cells + kc ≤ R.cells ∧ A.slots + ks ≤ R.slots) (fun A _ v B => ∃ L, Q v B.U.heap L ∧ B.locs = A.locs ++ L ∧ B.cells = A.cells + kc ∧ B.slots = A.slots + ks ∧ CHr Z uO vm0 h B.U.vm B.U.heap)
def qV (p : Program) (e : Env) (below : List Frame) (s : State) (Z : State) (h0 : Heap) (Q : Option Value → Heap → List Loc → Prop) (C S : Nat) (A : State) : Prop :=
  ∃ t v L, Steps p.tables e below A t ∧ t.status = .running ∧ Ended t below (.returned v) ∧ Q v t.heap L ∧ CHr Z uO s.vm h0 t.vm t.heap ∧ ReturnedEndW s (.returned v) t L C S
theorem yD {Q : Option Value → Heap → List Loc → Prop} {C S : Nat} {A B : State} (k : ∀ t, Steps p.tables e below B t → Steps p.tables e below A t) (G : qV p e below s Z h0 Q C S B) : qV p e below s Z h0 Q C S A := by
  obtain ⟨t, v, L, h1, h2⟩ := G
  exact ⟨t, v, L, k t h1, h2⟩
theorem o_bodyW {y : MethodName} {bytes : ByteArray} {maxL : Nat} {ret : Option FieldType} {ws : List Jvm.Cond} {rm : Room} {as : Array Value} {Q : Option Value → Heap → List Loc → Prop} (hp : plainFor y = true)
    (body : ∀ (p : Program) (e : Env) (s : State) (m : MethodId) (below : List Frame) (meth : Method) (c : Code) (T : State), Stand p l e rm (s.setVm s.vm) m as below meth c T [] 0 0 → p.tables.exec = Jvm.exec → c.code = bytes → c.maxLocals = maxL → Z.Warmed39 (s.setVm s.vm).vm → (s.setVm s.vm).vm.findClass y.cls = some m.cls → meth.name = y.name → meth.sig.returnType = ret → meth.locks = false → T.heap = h → s.Since s.vm 0 → CHr Z uO s.vm h s.vm h →
      qV p e below s Z h Q rm.cells rm.slots (T.setTop (entryFrame m as maxL))) : o_CW l Z y bytes maxL ret ws rm as h Q := by
  refine MetFree.of_bodySF hp hisR ?_
  intro p e s m args below meth c s₁ Bd hml hP hK
  obtain ⟨rfl, hZ, hh, hC⟩ := hP
  obtain ⟨t, v, L, h1, h2, h3, h4, h5, h6⟩ := body p e s m below meth c s₁ (Stand.of_body Bd) Bd.exec Bd.bytes hml hZ (findClass_of_methodNamed Bd.named) (name_of_methodNamed Bd.named Bd.method).1 Bd.returns Bd.notSynchronized (by rw [← hh, Bd.state]; rfl) ((State.WarmedH.refl s).since 0) (CHr.refl hC)
  exact ⟨t, _, h1, h2, h3, v, L, rfl, h4, hh.symm ▸ h5, h6⟩
theorem o_endW {fs : List Frame} {v : Option Value} {C S : Nat} (hS : s.Since vm0 k0) (hk : k0 ≤ h.size) (eT : T.heap = h) (hW : (s.setVm vm0).WarmedH (T.setFrames fs).vm) (hsame : (s.setVm vm0).sameButNew ({ T.setFrames fs with vm := (s.setVm vm0).vm } : State) locs cells slots) (hc : cells ≤ C) (hs : slots ≤ S) : ReturnedEndW s (.returned v) (T.setFrames fs) locs C S := by
  have q : s.Since (T.setFrames fs).vm h.size := hS.trans (hW.since h.size) hk
  subst eT
  exact ⟨⟨_, rfl⟩, q.1, q.2, ((hsame.mono hc hs).setVm s.vm)⟩
theorem o_retW {Q : Option Value → Heap → List Loc → Prop} {C S : Nat} (X : Stand p l e R (s.setVm vm0) m args below meth c T locs cells slots) (hx : p.tables.exec = Jvm.exec) (hk : meth.locks = false) (eT : T.heap = h) (hZ : Z.Warmed39 vm0) (hEL : EW Z a0 uO) (hS : s.Since vm0 k0) (hk0 : k0 ≤ h.size) (CR : CHr Z uO s.vm h0 vm0 h) {pc : Nat} {Ls : Array Slot} {w : Value} {t : FieldType} {i : Instr} {rest : List Value} (hret : meth.sig.returnType = some t) (hn : narrow t w = w)
    (hi : (i = .ireturn ∧ (t = .int ∨ t = .boolean ∨ t = .byte ∨ t = .char ∨ t = .short) ∧ ∃ z, w = .int z) ∨ (i = .lreturn ∧ t = .long ∧ ∃ z, w = .long z) ∨ (i = .dreturn ∧ t = .double ∧ ∃ z, w = .double z) ∨ (i = .freturn ∧ t = .float ∧ ∃ z, w = .float z) ∨ (i = .areturn ∧ t.isReference = true ∧ w.isRef = true))
    (hd : decode c.code pc = .ok (i, 1)) (hc : cells ≤ C) (hs : slots ≤ S) (hq : Q (some w) h locs) : qV p e below s Z h0 Q C S (T.setTop (mkF m pc Ls (w :: rest))) := by
  obtain ⟨fs, hr, hrun, hended, hW, hsame⟩ := X.leave (v := some w) (fun h => by rw [hret] at h; cases h) hk
  have D := CR.trans (CHv.at X hZ hEL CR.1)
  exact ⟨_, some w, locs, retOut X hx hret hn hi hd hr, hrun, hended, by subst eT; exact hq, by subst eT; exact D, o_endW hS hk0 eT hW hsame hc hs⟩
theorem uH {y : MethodName} {bytes : ByteArray} {maxL : Nat} {ret : Option FieldType} {rm : Room} {len W : Nat} {as : Array Value} {Q : Option Value → Heap → List Loc → Prop} (hM : o_CW l Z y bytes maxL ret [] rm as h Q) (hZ : Z.Warmed39 vm0) (wc : (Jvm.Cond.code y bytes maxL ret).before a0 Z = true) (wz : (Jvm.Cond.initialized y.cls).before a0 Z = true) (hf : rm.frames + 1 ≤ R.frames) (hl : W + (maxL + 11) + rm.locals ≤ R.locals) (hEL : EW Z a0 uO) (H : CHv Z uO vm0 h) :
    o_BkS l R p e below s vm0 Z args y len W as h rm.cells rm.slots Q := backOfSH hM hZ wc wz hf hl hEL H
theorem o_callSW (X : Stand p l e R (s.setVm vm0) m args below meth c T locs cells slots) (hx : p.tables.exec = Jvm.exec) (hZ : Z.Warmed39 (s.setVm vm0).vm) {own : String} {index : Nat} {y : MethodName} {bytes : ByteArray} {maxL : Nat} {ret : Option FieldType}
    (hown : (s.setVm vm0).vm.findClass own = some m.cls) (hS : s.Since vm0 k0) (hk : k0 ≤ h.size) (w1 : (Jvm.Cond.methodLink own index y).before a0 Z = true) (w2 : (Jvm.Cond.static y).before a0 Z = true) (w3 : (Jvm.Cond.initialized y.cls).before a0 Z = true) (w4 : (Jvm.Cond.code y bytes maxL ret).before a0 Z = true) (hy : y.cls ≠ "java/lang/invoke/MethodHandle" ∧ y.cls ≠ "java/lang/invoke/VarHandle")
    {W kc ks : Nat} {as : Array Value} {Q : Option Value → Heap → List Loc → Prop} (hK : o_BkS l R p e below s vm0 Z args y 3 W as h kc ks Q) (eT : T.heap = h) (hc : cells + kc ≤ R.cells) (hs : slots + ks ≤ R.slots)
    {g : JFrame} (hg : g.method = m) (hsize : g.locals.size = c.maxLocals) {argsL rest : List Value} (hlen : ∀ sig, parseMethodDescriptor y.desc = some sig → argsL.length = sig.parameters.length) (hstack : g.stack = argsL.reverse ++ rest) (has : argsL.toArray = as) (hW : 2 * g.monitorRoom + (rest.map fun v => v.category).sum ≤ W) (hdg : decode c.code g.pc = .ok (.invokestatic index, 3)) :
    ∃ (T' : State) (v : Option Value) (L : List Loc) (h' : Heap), Stand p l e R (s.setVm T'.vm) m args below meth c T' (locs ++ L) (cells + kc) (slots + ks) ∧ T'.heap = h' ∧ Q v h' L ∧ s.Since T'.vm h'.size ∧ Z.Warmed39 (s.setVm T'.vm).vm ∧ (s.setVm T'.vm).vm.findClass own = some m.cls ∧ CHr Z uO vm0 h T'.vm h' ∧ ∀ t, Steps p.tables e below (T'.setTop { g with pc := g.pc + 3, stack := v.toList ++ rest }) t → Steps p.tables e below (T.setTop g) t := by
  obtain ⟨v, _, ⟨T', L', k', n'⟩, -, X', h2, hgr, ⟨L, hQ, l1, y1, z1, hC⟩, st⟩ := callSS X hx hown (mvT hZ w1) (mvT hZ w2) (mvT hZ w3) (mvT hZ w4) hy hK hg hsize hlen hstack hW hdg (fun _ _ => ⟨has, eT, hc, hs⟩)
  dsimp only [Pt.U, Pt.locs, Pt.cells, Pt.slots] at X' h2 hgr hQ l1 y1 z1 hC st
  subst l1 y1 z1
  obtain ⟨r1, r2, r3, r4⟩ := rebS hS hk X' h2 (eT ▸ hgr) hZ hown
  exact ⟨T', v, L, _, r1, rfl, hQ, r2, r3, r4, hC, fun t k => st.trans k⟩
theorem o_callVW (X : Stand p l e R (s.setVm vm0) m args below meth c T locs cells slots) (hx : p.tables.exec = Jvm.exec) (hZ : Z.Warmed39 (s.setVm vm0).vm) {own C : String} {index : Nat} {y z : MethodName}
    (hown : (s.setVm vm0).vm.findClass own = some m.cls) (hS : s.Since vm0 k0) (hk : k0 ≤ h.size) (w1 : (Jvm.Cond.methodLink own index y).before a0 Z = true) (w2 : (Jvm.Cond.declares y).before a0 Z = true) (nf : NotFace (s.setVm vm0) y) (w3 : (Jvm.Cond.selects C y z).before a0 Z = true) (w4 : (Jvm.Cond.instanceMethod z).before a0 Z = true) (hy : y.cls ≠ "java/lang/invoke/MethodHandle" ∧ y.cls ≠ "java/lang/invoke/VarHandle")
    {W kc ks : Nat} {as : Array Value} {Q : Option Value → Heap → List Loc → Prop} (hK : o_BkS l R p e below s vm0 Z args z 3 W as h kc ks Q) (eT : T.heap = h) {b : Addr} (E : Exa Z h b C) (hc : cells + kc ≤ R.cells) (hs : slots + ks ≤ R.slots)
    {g : JFrame} (hg : g.method = m) (hsize : g.locals.size = c.maxLocals) {argsL rest : List Value} (hlen : ∀ sig, parseMethodDescriptor y.desc = some sig → argsL.length = sig.parameters.length) (hstack : g.stack = argsL.reverse ++ .ref b :: rest) (has : (.ref b :: argsL).toArray = as) (hW : 2 * g.monitorRoom + (rest.map fun v => v.category).sum ≤ W) (hdg : decode c.code g.pc = .ok (.invokevirtual index, 3)) :
    ∃ (T' : State) (v : Option Value) (L : List Loc) (h' : Heap), Stand p l e R (s.setVm T'.vm) m args below meth c T' (locs ++ L) (cells + kc) (slots + ks) ∧ T'.heap = h' ∧ Q v h' L ∧ s.Since T'.vm h'.size ∧ Z.Warmed39 (s.setVm T'.vm).vm ∧ (s.setVm T'.vm).vm.findClass own = some m.cls ∧ CHr Z uO vm0 h T'.vm h' ∧ ∀ t, Steps p.tables e below (T'.setTop { g with pc := g.pc + 3, stack := v.toList ++ rest }) t → Steps p.tables e below (T.setTop g) t := by
  obtain ⟨cq, kq, qa, qb, qc⟩ := isOf hZ eT E
  obtain ⟨v, _, ⟨T', L', k', n'⟩, -, X', h2, hgr, ⟨L, hQ, l1, y1, z1, hC⟩, st⟩ := X.virtualBackS hx hown (mvT hZ w1) (mvT hZ w2) nf (mvT hZ w3) (mvT hZ w4) hy hK qa qc hg hsize (Steps.refl _) hlen hstack hW hdg (fun _ _ => ⟨has, eT, hc, hs⟩)
  dsimp only [Pt.U, Pt.locs, Pt.cells, Pt.slots] at X' h2 hgr hQ l1 y1 z1 hC st
  subst l1 y1 z1
  obtain ⟨r1, r2, r3, r4⟩ := rebS hS hk X' h2 (eT ▸ hgr) hZ hown
  exact ⟨T', v, L, _, r1, rfl, hQ, r2, r3, r4, hC, fun t k => st.trans k⟩
theorem o_wStr (hw : ∀ d ∈ tables_1, d.before a0 Z = true) : ∀ d ∈ Bundle.stringAtoms, d.before a0 Z = true := fun d hd => hw d ((by decide +kernel : ∀ d ∈ Bundle.stringAtoms, d ∈ tables_1) d hd)
end OwnWide
end Jvm.Pilot.@@N@@
/- own kit W2: String constants read; a String under construction is no booked one -/
namespace Jvm.Pilot.@@N@@
open Jvm Jvm.ClassFile Sem Op Lib Jvm.Free Jvm.Stand Jvm.LawKit Jvm.RoadKit Bundle Jvm.Pilot.@@N@@.Jvm.D
section OwnWide2
variable {Z : State} {h : Heap} {vm : Vm} {EL : List (String × Nat)}
theorem o_litStr {a b : Addr} {k : ClassId} {z : Int32} {vs : List Value} {cs : List Int32} (E : Exa Z h a "java/lang/String") (C : Fld Z h a "java/lang/String" "coder" "B" (.int 0)) (V : Fld Z h a "java/lang/String" "value" "[B" (.ref b)) (A : Arv Z h b k .byte z vs (.int 0)) (hz : z = Int32.ofNat cs.length) (hv : vs = cs.map fun c => Value.int (StrChars.lo8 c)) (hc : ∀ c ∈ cs, ¬ c < 0 ∧ ¬ (255 : Int32) < c) (hl : cs.length ≤ 4000) : qQ Z h a cs :=
  ⟨E, b, k, 0, z, vs, V, C, A, Or.inl ⟨rfl, hz, hv, fun c q => (hc c q).2⟩, o_up _ hc, hl⟩
end OwnWide2
end Jvm.Pilot.@@N@@
namespace Jvm.Pilot.@@N@@
open Jvm Jvm.ClassFile Sem Op Lib Jvm.Free Jvm.Stand Jvm.LawKit Jvm.RoadKit Bundle Jvm.Pilot.@@N@@.Jvm.D
set_option maxRecDepth 65536
set_option maxHeartbeats 40000000
abbrev yQ (a0 : Array Value) (Z : State) : Prop := ∀ d ∈ tables_1, d.before a0 Z = true
def o_g (i : Nat) : Jvm.Cond := tables_1.getD i .tt
theorem qC {a0 : Array Value} {Z : State} (hw : yQ a0 Z) (i : Nat) : (o_g i).before a0 Z = true := by
  unfold o_g
  rw [List.getD_eq_getElem?_getD]
  cases h : tables_1[i]? with
  | none => rfl
  | some d => exact hw d (List.mem_of_getElem? h)
theorem o_l {a b : Nat} (h : a < b) : a < b := h
theorem qK {c : Code} {n : Nat} (h : c.maxLocals = n) {g : JFrame} (q : g.locals.size = n) : g.locals.size = c.maxLocals := q.trans h.symm
theorem qE {g : JFrame} {n W : Nat} (h1 : g.monitorRoom = 0) (h2 : n = W) : 2 * g.monitorRoom + n ≤ W := by rw [h1, h2]; omega
theorem o_dd {code : ByteArray} {x0 : Nat × Instr × Nat} {L : List (Nat × Instr × Nat)} (h : ∀ x ∈ x0 :: L, decode code x.1 = .ok x.2) (i : Nat) : decode code ((x0 :: L).getD i x0).1 = .ok ((x0 :: L).getD i x0).2 := by
  rw [List.getD_eq_getElem?_getD]
  cases e : (x0 :: L)[i]? with
  | none => exact h x0 List.mem_cons_self
  | some x => exact h x (List.mem_of_getElem? e)
theorem o_q {c : Code} {code : ByteArray} {x0 : Nat × Instr × Nat} {L : List (Nat × Instr × Nat)} (hc : c.code = code) (h : ∀ x ∈ x0 :: L, decode code x.1 = .ok x.2) (i : Nat) : decode c.code ((x0 :: L).getD i x0).1 = .ok ((x0 :: L).getD i x0).2 := hb hc (o_dd h i)
section OwnGo
variable {p : Program} {e : Env} {below : List Frame} {s Z : State} {h0 : Heap} {Q : Option Value → Heap → List Loc → Prop} {C S : Nat} {B : State}
theorem yO {P1 P2 : State → Prop} {G : State → State} (H : ∃ T', P1 T' ∧ P2 T' ∧ ∀ t, Steps p.tables e below (G T') t → Steps p.tables e below B t) (K : ∀ T', P1 T' → P2 T' → uR p e below s Q C S (G T')) : uR p e below s Q C S B := by
  obtain ⟨T', h1, h2, st⟩ := H; exact yA st (K T' h1 h2)
theorem o_o1W {P1 P2 : State → Prop} {G : State → State} (H : ∃ T', P1 T' ∧ P2 T' ∧ ∀ t, Steps p.tables e below (G T') t → Steps p.tables e below B t) (K : ∀ T', P1 T' → P2 T' → qV p e below s Z h0 Q C S (G T')) : qV p e below s Z h0 Q C S B := by
  obtain ⟨T', h1, h2, st⟩ := H; exact yD st (K T' h1 h2)
theorem qL {P1 : State → Prop} {P2 : State → Heap → Prop} {P3 : Heap → Prop} {G : State → State} (H : ∃ T' h', P1 T' ∧ P2 T' h' ∧ P3 h' ∧ ∀ t, Steps p.tables e below (G T') t → Steps p.tables e below B t) (K : ∀ T' h', P1 T' → P2 T' h' → P3 h' → uR p e below s Q C S (G T')) : uR p e below s Q C S B := by
  obtain ⟨T', h', h1, h2, h3, st⟩ := H; exact yA st (K T' h' h1 h2 h3)
theorem uY {P1 : State → Prop} {P2 : State → Heap → Prop} {P3 : Heap → Prop} {G : State → State} (H : ∃ T' h', P1 T' ∧ P2 T' h' ∧ P3 h' ∧ ∀ t, Steps p.tables e below (G T') t → Steps p.tables e below B t) (K : ∀ T' h', P1 T' → P2 T' h' → P3 h' → qV p e below s Z h0 Q C S (G T')) : qV p e below s Z h0 Q C S B := by
  obtain ⟨T', h', h1, h2, h3, st⟩ := H; exact yD st (K T' h' h1 h2 h3)
theorem yL {P1 : State → List Loc → Prop} {P2 : State → Heap → Prop} {P3 : Option Value → Heap → List Loc → Prop} {G : State → Option Value → State} (H : ∃ T' v L h', P1 T' L ∧ P2 T' h' ∧ P3 v h' L ∧ ∀ t, Steps p.tables e below (G T' v) t → Steps p.tables e below B t) (K : ∀ T' v L h', P1 T' L → P2 T' h' → P3 v h' L → uR p e below s Q C S (G T' v)) : uR p e below s Q C S B := by
  obtain ⟨T', v, L, h', h1, h2, h3, st⟩ := H; exact yA st (K T' v L h' h1 h2 h3)
theorem qI {P1 : State → List Loc → Prop} {P2 : State → Heap → Prop} {P3 : Option Value → Heap → List Loc → Prop} {G : State → Option Value → State} (H : ∃ T' v L h', P1 T' L ∧ P2 T' h' ∧ P3 v h' L ∧ ∀ t, Steps p.tables e below (G T' v) t → Steps p.tables e below B t) (K : ∀ T' v L h', P1 T' L → P2 T' h' → P3 v h' L → qV p e below s Z h0 Q C S (G T' v)) : qV p e below s Z h0 Q C S B := by
  obtain ⟨T', v, L, h', h1, h2, h3, st⟩ := H; exact yD st (K T' v L h' h1 h2 h3)
theorem uI {P1 : State → List Loc → Prop} {P2 : State → Heap → Prop} {P3 : Option Value → Heap → List Loc → Prop} {P4 : State → Heap → Prop} {P5 P6 : State → Prop} {P7 : State → Heap → Prop} {G : State → Option Value → State} (H : ∃ T' v L h', P1 T' L ∧ P2 T' h' ∧ P3 v h' L ∧ P4 T' h' ∧ P5 T' ∧ P6 T' ∧ P7 T' h' ∧ ∀ t, Steps p.tables e below (G T' v) t → Steps p.tables e below B t) (K : ∀ T' v L h', P1 T' L → P2 T' h' → P3 v h' L → P4 T' h' → P5 T' → P6 T' → P7 T' h' → qV p e below s Z h0 Q C S (G T' v)) : qV p e below s Z h0 Q C S B := by
  obtain ⟨T', v, L, h', h1, h2, h3, h4, h5, h6, h7, st⟩ := H; exact yD st (K T' v L h' h1 h2 h3 h4 h5 h6 h7)
end OwnGo
abbrev mN1 : MethodName := ⟨"com/example/shelfproof/shelfproof/csv/Csv", "next", "()Lcom/example/shelfproof/shelfproof/csv/Csv$Row;"⟩
abbrev mN2 : MethodName := ⟨"java/lang/AbstractStringBuilder", "ensureCapacityInternal", "(I)V"⟩
abbrev mN3 : MethodName := ⟨"com/example/shelfproof/shelfproof/csv/CsvNextPinLaw", "check", "(Lcom/example/shelfproof/shelfproof/csv/Csv$Row;IILjava/lang/String;Ljava/lang/String;Ljava/lang/String;I)Z"⟩
abbrev mN4 : MethodName := ⟨"java/lang/AbstractStringBuilder", "isLatin1", "()Z"⟩
abbrev mN5 : MethodName := ⟨"java/lang/String", "length", "()I"⟩
abbrev mN6 : MethodName := ⟨"java/lang/StringBuilder", "append", "(C)Ljava/lang/StringBuilder;"⟩
abbrev mN7 : MethodName := ⟨"com/example/shelfproof/shelfproof/csv/CsvNextPinLaw", "ord", "(I)C"⟩
abbrev mN8 : MethodName := ⟨"java/lang/String", "charAt", "(I)C"⟩
abbrev mN9 : MethodName := ⟨"java/lang/String", "equals", "(Ljava/lang/Object;)Z"⟩
abbrev mN10 : MethodName := ⟨"com/example/shelfproof/shelfproof/csv/Csv", "at", "(C)Z"⟩
abbrev mN11 : MethodName := ⟨"com/example/shelfproof/shelfproof/csv/CsvNextPinLaw", "str1", "(C)Ljava/lang/String;"⟩
abbrev mN12 : MethodName := ⟨"java/lang/StringLatin1", "canEncode", "(C)Z"⟩
abbrev mN13 : MethodName := ⟨"java/lang/String", "isLatin1", "()Z"⟩
abbrev mN14 : MethodName := ⟨"java/util/Objects", "requireNonNull", "(Ljava/lang/Object;)Ljava/lang/Object;"⟩
abbrev mN15 : MethodName := ⟨"com/example/shelfproof/shelfproof/csv/CsvNextPinLaw", "str2", "(CC)Ljava/lang/String;"⟩
abbrev mN16 : MethodName := ⟨"com/example/shelfproof/shelfproof/csv/Csv", "endOfLine", "()Z"⟩
abbrev mN17 : MethodName := ⟨"java/util/List", "get", "(I)Ljava/lang/Object;"⟩
abbrev mN18 : MethodName := ⟨"java/lang/StringUTF16", "putChar", "([BII)V"⟩
abbrev mN19 : MethodName := ⟨"java/lang/String", "<init>", "([C)V"⟩
abbrev mN20 : MethodName := ⟨"com/example/shelfproof/shelfproof/csv/Csv", "atEndOfLine", "()Z"⟩
abbrev mN21 : MethodName := ⟨"java/lang/StringBuilder", "toString", "()Ljava/lang/String;"⟩
abbrev mN22 : MethodName := ⟨"java/util/ArrayList", "add", "(Ljava/lang/Object;)Z"⟩
abbrev mN23 : MethodName := ⟨"java/util/List", "of", "([Ljava/lang/Object;)Ljava/util/List;"⟩
abbrev mN24 : MethodName := ⟨"com/example/shelfproof/shelfproof/csv/Csv$Row", "<init>", "(ILjava/util/List;Ljava/lang/String;)V"⟩
abbrev mN25 : MethodName := ⟨"java/util/ImmutableCollections$List12", "get", "(I)Ljava/lang/Object;"⟩
abbrev mN26 : MethodName := ⟨"java/lang/StringUTF16", "coderFromArrayLen", "([BI)B"⟩
abbrev mN27 : MethodName := ⟨"java/lang/String", "coder", "()B"⟩
abbrev mN28 : MethodName := ⟨"java/lang/AbstractStringBuilder", "append", "(C)Ljava/lang/AbstractStringBuilder;"⟩
abbrev mN29 : MethodName := ⟨"java/lang/String", "value", "()[B"⟩
abbrev mN30 : MethodName := ⟨"java/lang/StringBuilder", "append", "(Ljava/lang/CharSequence;II)Ljava/lang/StringBuilder;"⟩
abbrev mN31 : MethodName := ⟨"java/lang/AbstractStringBuilder", "length", "()I"⟩
abbrev mN32 : MethodName := ⟨"java/util/ArrayList", "isEmpty", "()Z"⟩
abbrev mN33 : MethodName := ⟨"java/util/ImmutableCollections$AbstractImmutableList", "<init>", "()V"⟩
abbrev mN34 : MethodName := ⟨"java/util/ImmutableCollections", "listCopy", "(Ljava/util/Collection;)Ljava/util/List;"⟩
abbrev mN35 : MethodName := ⟨"java/lang/String", "<init>", "([BB)V"⟩
abbrev mN36 : MethodName := ⟨"com/example/shelfproof/shelfproof/csv/CsvNextPinLaw", "str3", "(CCC)Ljava/lang/String;"⟩
abbrev mN37 : MethodName := ⟨"java/util/ImmutableCollections$List12", "size", "()I"⟩
abbrev mN38 : MethodName := ⟨"java/util/ImmutableCollections$ListN", "get", "(I)Ljava/lang/Object;"⟩
abbrev mN39 : MethodName := ⟨"java/util/List", "size", "()I"⟩
abbrev mN40 : MethodName := ⟨"java/lang/StringUTF16", "newBytesFor", "(I)[B"⟩
abbrev mN41 : MethodName := ⟨"java/lang/StringUTF16", "getChar", "([BI)C"⟩
abbrev mN42 : MethodName := ⟨"java/lang/String", "checkIndex", "(II)V"⟩
abbrev mN43 : MethodName := ⟨"java/lang/StringUTF16", "length", "([B)I"⟩
abbrev mN44 : MethodName := ⟨"java/lang/StringUTF16", "checkIndex", "(I[B)V"⟩
abbrev mN45 : MethodName := ⟨"java/lang/Math", "min", "(II)I"⟩
abbrev mN46 : MethodName := ⟨"java/util/Arrays", "copyOfRangeByte", "([BII)[B"⟩
abbrev mN47 : MethodName := ⟨"java/util/Arrays", "copyOfRange", "([BII)[B"⟩
abbrev mN48 : MethodName := ⟨"java/lang/StringUTF16", "putCharSB", "([BII)V"⟩
abbrev mN49 : MethodName := ⟨"java/lang/AbstractStringBuilder", "inflate", "()V"⟩
abbrev mN50 : MethodName := ⟨"java/lang/AbstractStringBuilder", "getValue", "()[B"⟩
abbrev mN51 : MethodName := ⟨"java/lang/StringBuilder", "length", "()I"⟩
abbrev mN52 : MethodName := ⟨"java/util/AbstractCollection", "<init>", "()V"⟩
abbrev mN53 : MethodName := ⟨"java/util/ArrayList", "<init>", "()V"⟩
abbrev mN54 : MethodName := ⟨"com/example/shelfproof/shelfproof/csv/Csv", "unquoted", "(Ljava/lang/StringBuilder;)V"⟩
abbrev mN55 : MethodName := ⟨"java/util/ImmutableCollections$ListN", "size", "()I"⟩
abbrev sN1 : String := "com/example/shelfproof/shelfproof/csv/Csv"
abbrev sN2 : String := "java/lang/String"
abbrev sN3 : String := "com/example/shelfproof/shelfproof/csv/Csv$Row"
abbrev sN4 : String := "java/lang/AbstractStringBuilder"
abbrev sN5 : String := "java/util/ImmutableCollections$List12"
abbrev sN6 : String := "java/lang/Object"
abbrev sN7 : String := "java/util/ArrayList"
abbrev sN8 : String := "[Ljava/lang/Object;"
abbrev sN9 : String := "Ljava/lang/String;"
abbrev sN10 : String := "com/example/shelfproof/shelfproof/csv/CsvNextPinLaw"
abbrev sN11 : String := "java/lang/StringUTF16"
abbrev sN12 : String := "java/util/ImmutableCollections$ListN"
abbrev sN13 : String := "java/util/List"
abbrev sN14 : String := "java/lang/StringBuilder"
abbrev sN15 : String := "Ljava/lang/Object;"
abbrev sN16 : String := "java/util/AbstractList"
abbrev sN17 : String := "jdk/internal/util/Preconditions"
abbrev sN18 : String := "java/lang/StringLatin1"
abbrev sN19 : String := "()[Ljava/lang/Object;"
abbrev sN20 : String := "elementData"
abbrev sN21 : String := "java/util/Arrays"
abbrev sN22 : String := "Ljava/util/List;"
abbrev sN23 : String := "modCount"
section OwnTight
abbrev o_Q (p : Program) (c : Code) (pc : Nat) (i : Instr) (n : Nat) : Prop := p.tables.exec = Jvm.exec ∧ decode c.code pc = .ok (i, n)
abbrev yX (b : ByteArray) (L : List (Nat × Instr × Nat)) : Prop := ∀ x ∈ L, decode b x.1 = .ok x.2
theorem yR {p : Program} {c : Code} {code : ByteArray} {x0 : Nat × Instr × Nat} {L : List (Nat × Instr × Nat)} (hx : p.tables.exec = Jvm.exec) (hc : c.code = code) (h : yX code (x0 :: L)) (i : Nat) : p.tables.exec = Jvm.exec ∧ decode c.code ((x0 :: L).getD i x0).1 = .ok ((x0 :: L).getD i x0).2 := ⟨hx, o_q hc h i⟩
theorem o_bx {p : Program} {c : Code} {code : ByteArray} (hx : p.tables.exec = Jvm.exec) (hc : c.code = code) {pc n : Nat} {i : Instr} (h : decode code pc = .ok (i, n)) : o_Q p c pc i n := ⟨hx, hb hc h⟩
variable {p : Program} {l : Launch} {e : Env} {R : Room} {s Z : State} {m : MethodId} {args a0 : Array Value} {below : List Frame} {meth : Method} {c : Code} {T : State} {locs : List Loc} {cells slots : Nat} {h h0 : Heap}
abbrev o_D5 (y : MethodName) (rm R : Room) (W n cells slots : Nat) : Prop := (y.cls ≠ "java/lang/invoke/MethodHandle" ∧ y.cls ≠ "java/lang/invoke/VarHandle") ∧ rm.frames + 1 ≤ R.frames ∧ W + (n + 11) + rm.locals ≤ R.locals ∧ cells + rm.cells ≤ R.cells ∧ slots + rm.slots ≤ R.slots
theorem qD (X : Stand p l e R s m args below meth c T locs cells slots) (hZ : Z.Warmed39 s.vm) {own : String} {index : Nat} {y : MethodName} {bytes : ByteArray} {n : Nat} {ret : Option FieldType} (hown : s.vm.findClass own = some m.cls) (w1 : (Jvm.Cond.methodLink own index y).before a0 Z = true) (w2 : (Jvm.Cond.static y).before a0 Z = true) (w3 : (Jvm.Cond.initialized y.cls).before a0 Z = true) (w4 : (Jvm.Cond.code y bytes n ret).before a0 Z = true) {rm : Room} (W : Nat) {as : Array Value} {Q : Option Value → Heap → List Loc → Prop} (M : yZ l Z y bytes n ret [] rm as h Q) (eT : T.heap = h) (D : o_D5 y rm R W n cells slots) {g : JFrame} (hg : g.method = m) (hsize : g.locals.size = c.maxLocals) (argsL : List Value) {rest : List Value} {ps : List FieldType} {r : Option FieldType} (hp : parseMethodDescriptor y.desc = some ⟨ps, r⟩) (hl : argsL.length = ps.length) (hstack : g.stack = argsL.reverse ++ rest) (has : (argsL).toArray = as) (hr : g.monitorRoom = 0) (hW : (rest.map fun v => v.category).sum = W) (q : o_Q p c g.pc (.invokestatic index) 3) : ∃ (T' : State) (v : Option Value) (L : List Loc) (h' : Heap), Stand p l e R s m args below meth c T' (locs ++ L) (cells + rm.cells) (slots + rm.slots) ∧ T'.heap = h' ∧ Q v h' L ∧ ∀ t, Steps p.tables e below (T'.setTop { g with pc := g.pc + 3, stack := v.toList ++ rest }) t → Steps p.tables e below (T.setTop g) t :=
 o_callS X q.1 hZ hown w1 w2 w3 w4 D.1 (qY M hZ w4 w3 D.2.1 D.2.2.1) eT D.2.2.2.1 D.2.2.2.2 hg hsize (lenOf hp hl) hstack has (qE hr hW) q.2
theorem o_cI (X : Stand p l e R s m args below meth c T locs cells slots) (hZ : Z.Warmed39 s.vm) {own : String} {index : Nat} {y : MethodName} (hy1 : y.name = "<init>") {bytes : ByteArray} {n : Nat} (hown : s.vm.findClass own = some m.cls) (w1 : (Jvm.Cond.methodLink own index y).before a0 Z = true) (w2 : (Jvm.Cond.instanceMethod y).before a0 Z = true) (w3 : (Jvm.Cond.code y bytes n none).before a0 Z = true) (w4 : (Jvm.Cond.initialized y.cls).before a0 Z = true) {rm : Room} (W : Nat) {as : Array Value} {Q : Option Value → Heap → List Loc → Prop} (M : yZ l Z y bytes n none [] rm as h Q) (eT : T.heap = h) (D : o_D5 y rm R W n cells slots) {g : JFrame} (hg : g.method = m) (hsize : g.locals.size = c.maxLocals) {a : Addr} (argsL : List Value) {rest : List Value} {ps : List FieldType} {r : Option FieldType} (hp : parseMethodDescriptor y.desc = some ⟨ps, r⟩) (hl : argsL.length = ps.length) (hstack : g.stack = argsL.reverse ++ .ref a :: rest) (has : (.ref a :: argsL).toArray = as) (hr : g.monitorRoom = 0) (hW : (rest.map fun v => v.category).sum = W) (q : o_Q p c g.pc (.invokespecial index) 3) : ∃ (T' : State) (v : Option Value) (L : List Loc) (h' : Heap), Stand p l e R s m args below meth c T' (locs ++ L) (cells + rm.cells) (slots + rm.slots) ∧ T'.heap = h' ∧ Q v h' L ∧ ∀ t, Steps p.tables e below (T'.setTop { g with pc := g.pc + 3, stack := v.toList ++ rest }) t → Steps p.tables e below (T.setTop g) t :=
 o_callI X q.1 hZ hy1 hown w1 w2 w3 D.1 (qY M hZ w3 w4 D.2.1 D.2.2.1) eT D.2.2.2.1 D.2.2.2.2 hg hsize (lenOf hp hl) hstack has (qE hr hW) q.2
theorem qZ (X : Stand p l e R s m args below meth c T locs cells slots) (hZ : Z.Warmed39 s.vm) {own C : String} {index : Nat} {y : MethodName} {bytes : ByteArray} {n : Nat} {ret : Option FieldType} (hown : s.vm.findClass own = some m.cls) (w1 : (Jvm.Cond.methodLink own index y).before a0 Z = true) (w2 : (Jvm.Cond.declares y).before a0 Z = true) (w3 : (Jvm.Cond.selects C y y).before a0 Z = true) (w4 : (Jvm.Cond.instanceMethod y).before a0 Z = true) (w5 : (Jvm.Cond.code y bytes n ret).before a0 Z = true) (w6 : (Jvm.Cond.initialized y.cls).before a0 Z = true) {rm : Room} (W : Nat) {as : Array Value} {Q : Option Value → Heap → List Loc → Prop} (M : yZ l Z y bytes n ret [] rm as h Q) (eT : T.heap = h) {b : Addr} (E : Exa Z h b C) (D : o_D5 y rm R W n cells slots) {g : JFrame} (hg : g.method = m) (hsize : g.locals.size = c.maxLocals) (argsL : List Value) {rest : List Value} {ps : List FieldType} {r : Option FieldType} (hp : parseMethodDescriptor y.desc = some ⟨ps, r⟩) (hl : argsL.length = ps.length) (hstack : g.stack = argsL.reverse ++ .ref b :: rest) (has : (.ref b :: argsL).toArray = as) (hr : g.monitorRoom = 0) (hW : (rest.map fun v => v.category).sum = W) (q : o_Q p c g.pc (.invokevirtual index) 3) : ∃ (T' : State) (v : Option Value) (L : List Loc) (h' : Heap), Stand p l e R s m args below meth c T' (locs ++ L) (cells + rm.cells) (slots + rm.slots) ∧ T'.heap = h' ∧ Q v h' L ∧ ∀ t, Steps p.tables e below (T'.setTop { g with pc := g.pc + 3, stack := v.toList ++ rest }) t → Steps p.tables e below (T.setTop g) t :=
 o_callV X q.1 hZ hown w1 w2 (notFace_of_selects (args := #[]) (mvT hZ w3)) w3 w4 D.1 (qY M hZ w5 w6 D.2.1 D.2.2.1) eT E D.2.2.2.1 D.2.2.2.2 hg hsize (lenOf hp hl) hstack has (qE hr hW) q.2
theorem o_cN (X : Stand p l e R s m args below meth c T locs cells slots) (hZ : Z.Warmed39 s.vm) {own C : String} {index : Nat} {y z : MethodName} {bytes : ByteArray} {n : Nat} {ret : Option FieldType} (hown : s.vm.findClass own = some m.cls) (w1 : (Jvm.Cond.methodLink own index y).before a0 Z = true) (w2 : (Jvm.Cond.declares y).before a0 Z = true) (w3 : NotFace s y) (w4 : (Jvm.Cond.selects C y z).before a0 Z = true) (w5 : (Jvm.Cond.instanceMethod z).before a0 Z = true) (w6 : (Jvm.Cond.code z bytes n ret).before a0 Z = true) (w7 : (Jvm.Cond.initialized z.cls).before a0 Z = true) {rm : Room} (W : Nat) {as : Array Value} {Q : Option Value → Heap → List Loc → Prop} (M : yZ l Z z bytes n ret [] rm as h Q) (eT : T.heap = h) {b : Addr} (E : Exa Z h b C) (D : o_D5 y rm R W n cells slots) {g : JFrame} (hg : g.method = m) (hsize : g.locals.size = c.maxLocals) (argsL : List Value) {rest : List Value} {ps : List FieldType} {r : Option FieldType} (hp : parseMethodDescriptor y.desc = some ⟨ps, r⟩) (hl : argsL.length = ps.length) (hstack : g.stack = argsL.reverse ++ .ref b :: rest) (has : (.ref b :: argsL).toArray = as) (hr : g.monitorRoom = 0) (hW : (rest.map fun v => v.category).sum = W) (q : o_Q p c g.pc (.invokevirtual index) 3) : ∃ (T' : State) (v : Option Value) (L : List Loc) (h' : Heap), Stand p l e R s m args below meth c T' (locs ++ L) (cells + rm.cells) (slots + rm.slots) ∧ T'.heap = h' ∧ Q v h' L ∧ ∀ t, Steps p.tables e below (T'.setTop { g with pc := g.pc + 3, stack := v.toList ++ rest }) t → Steps p.tables e below (T.setTop g) t :=
 o_callV X q.1 hZ hown w1 w2 w3 w4 w5 D.1 (qY M hZ w6 w7 D.2.1 D.2.2.1) eT E D.2.2.2.1 D.2.2.2.2 hg hsize (lenOf hp hl) hstack has (qE hr hW) q.2
theorem o_cP (X : Stand p l e R s m args below meth c T locs cells slots) (hZ : Z.Warmed39 s.vm) {own C : String} {index : Nat} {y : MethodName} {bytes : ByteArray} {n : Nat} {ret : Option FieldType} (hown : s.vm.findClass own = some m.cls) (w1 : (Jvm.Cond.methodLink own index y).before a0 Z = true) (w2 : (Jvm.Cond.instanceMethod y).before a0 Z = true) (w3 : o_NI Z y.cls) (w4 : (Jvm.Cond.privateMethod y).before a0 Z = true) (w5 : (Jvm.Cond.code y bytes n ret).before a0 Z = true) (w6 : (Jvm.Cond.initialized y.cls).before a0 Z = true) {rm : Room} (W : Nat) {as : Array Value} {Q : Option Value → Heap → List Loc → Prop} (M : yZ l Z y bytes n ret [] rm as h Q) (eT : T.heap = h) {b : Addr} (E : Exa Z h b C) (D : o_D5 y rm R W n cells slots) {g : JFrame} (hg : g.method = m) (hsize : g.locals.size = c.maxLocals) (argsL : List Value) {rest : List Value} {ps : List FieldType} {r : Option FieldType} (hp : parseMethodDescriptor y.desc = some ⟨ps, r⟩) (hl : argsL.length = ps.length) (hstack : g.stack = argsL.reverse ++ .ref b :: rest) (has : (.ref b :: argsL).toArray = as) (hr : g.monitorRoom = 0) (hW : (rest.map fun v => v.category).sum = W) (q : o_Q p c g.pc (.invokevirtual index) 3) : ∃ (T' : State) (v : Option Value) (L : List Loc) (h' : Heap), Stand p l e R s m args below meth c T' (locs ++ L) (cells + rm.cells) (slots + rm.slots) ∧ T'.heap = h' ∧ Q v h' L ∧ ∀ t, Steps p.tables e below (T'.setTop { g with pc := g.pc + 3, stack := v.toList ++ rest }) t → Steps p.tables e below (T.setTop g) t :=
 o_callP X q.1 hZ hown w1 w2 (o_selP w3 w2 w4 D.1) w4 w5 D.1 (qY M hZ w5 w6 D.2.1 D.2.2.1) eT E D.2.2.2.1 D.2.2.2.2 hg hsize (lenOf hp hl) hstack has (qE hr hW) q.2
theorem o_cF (X : Stand p l e R s m args below meth c T locs cells slots) (hZ : Z.Warmed39 s.vm) {own C : String} {index count : Nat} {y z : MethodName} {bytes : ByteArray} {n : Nat} {ret : Option FieldType} (hown : s.vm.findClass own = some m.cls) (w1 : (Jvm.Cond.methodLink own index y).before a0 Z = true) (w2 : (Jvm.Cond.declares y).before a0 Z = true) (w3 : (Jvm.Cond.interfaceMethod y.cls y.cls y.name y.desc).before args s = true) (w4 : (Jvm.Cond.selects C y z).before a0 Z = true) (w5 : (Jvm.Cond.instanceMethod z).before a0 Z = true) (w6 : (Jvm.Cond.publicMethod z).before a0 Z = true) (w7 : (Jvm.Cond.unhidden C y.name y.desc).before a0 Z = true) (w8 : (Jvm.Cond.castable C y.cls).before a0 Z = true) (w9 : (Jvm.Cond.code z bytes n ret).before a0 Z = true) (w10 : (Jvm.Cond.initialized z.cls).before a0 Z = true) {rm : Room} (W : Nat) {as : Array Value} {Q : Option Value → Heap → List Loc → Prop} (M : yZ l Z z bytes n ret [] rm as h Q) (eT : T.heap = h) {b : Addr} (E : Exa Z h b C) (D : o_D5 y rm R W n cells slots) {g : JFrame} (hg : g.method = m) (hsize : g.locals.size = c.maxLocals) (argsL : List Value) {rest : List Value} {ps : List FieldType} {r : Option FieldType} (hp : parseMethodDescriptor y.desc = some ⟨ps, r⟩) (hl : argsL.length = ps.length) (hstack : g.stack = argsL.reverse ++ .ref b :: rest) (has : (.ref b :: argsL).toArray = as) (hr : g.monitorRoom = 0) (hW : (rest.map fun v => v.category).sum = W) (q : o_Q p c g.pc (.invokeinterface index count) 5) : ∃ (T' : State) (v : Option Value) (L : List Loc) (h' : Heap), Stand p l e R s m args below meth c T' (locs ++ L) (cells + rm.cells) (slots + rm.slots) ∧ T'.heap = h' ∧ Q v h' L ∧ ∀ t, Steps p.tables e below (T'.setTop { g with pc := g.pc + 5, stack := v.toList ++ rest }) t → Steps p.tables e below (T.setTop g) t :=
 o_callF X q.1 hZ hown w1 w2 w3 w4 w5 w6 w7 w8 D.1 (qY M hZ w9 w10 D.2.1 D.2.2.1) eT E D.2.2.2.1 D.2.2.2.2 hg hsize (lenOf hp hl) hstack has (qE hr hW) q.2
theorem yG {Q : Option Value → Heap → List Loc → Prop} {C S : Nat} (m : MethodId) (pc : Nat) (Ls : Array Slot) (st : List Value) (G : uR p e below s Q C S (T.setTop (mkF m pc Ls st))) : uR p e below s Q C S (T.setTop (mkF m pc Ls st)) := G
theorem qO {Q : Option Value → Heap → List Loc → Prop} {C S : Nat} (m : MethodId) (pc : Nat) (Ls : Array Slot) (st : List Value) (G : qV p e below s Z h0 Q C S (T.setTop (mkF m pc Ls st))) : qV p e below s Z h0 Q C S (T.setTop (mkF m pc Ls st)) := G
theorem yI {h h' : Heap} {ws : List Addr} (A : Keep h0 h ws) (B : Keep h h' []) : Keep h0 h' ws := A.trans B all0
theorem yF {h h' : Heap} {ws : List Addr} {a : Addr} (A : Keep h0 h ws) (B : Keep h h' [a]) (q : a ∈ ws := by simp) : Keep h0 h' ws := A.trans B (allS (Or.inl q) all0)
theorem yN {h h' : Heap} {ws : List Addr} {a : Addr} (A : Keep h0 h ws) (B : Keep h h' [a]) (q : h0.size ≤ a := by omega) : Keep h0 h' ws := A.trans B (allS (Or.inr q) all0)
theorem uP {h h' : Heap} {ws : List Addr} {a b : Addr} (A : Keep h0 h ws) (B : Keep h h' [a, b]) (q : a ∈ ws := by simp) (r : b ∈ ws := by simp) : Keep h0 h' ws := A.trans B (allS (Or.inl q) (allS (Or.inl r) all0))
theorem yS {P : Prop} {C O n d O' n' d' : String} (L : Laid Z a0 C O n d) (L' : Laid Z a0 C O' n' d') (D : n ≠ n' ∧ (parseFieldDescriptor d).isSome = true ∧ (parseFieldDescriptor d').isSome = true) : P ∨ RoadKit.slotOf Z O n d ≠ RoadKit.slotOf Z O' n' d' := by
 obtain ⟨t, ht⟩ := Option.isSome_iff_exists.mp D.2.1
 obtain ⟨t', ht'⟩ := Option.isSome_iff_exists.mp D.2.2
 exact Or.inr (slot_ne L L' D.1 ht ht')
theorem yV (X : Stand p l e R s m args below meth c T locs cells slots) (hZ : Z.Warmed39 s.vm) {own O n d : String} {index : Nat} (hown : s.vm.findClass own = some m.cls) (w : (Jvm.Cond.fieldLink own index O n d).before a0 Z = true) (eT : T.heap = h) {a : Addr} {v : Value} (F : Fld Z h a O n d v) {g : JFrame} (hg : g.method = m) {rest : List Value} (hs : g.stack = .ref a :: rest) (q : o_Q p c g.pc (.getfield index) 3) : ∃ T', Stand p l e R s m args below meth c T' locs cells slots ∧ T'.heap = h ∧ ∀ target, Steps p.tables e below (T'.setTop { g with pc := g.pc + 3, stack := v :: rest }) target → Steps p.tables e below (T.setTop g) target := getF X q.1 hZ hown (host := "") (Or.inl w) Via.refl eT F hg hs q.2
abbrev o_hi (i : Instr) (t : FieldType) (w : Value) : Prop := (i = .ireturn ∧ (t = .int ∨ t = .boolean ∨ t = .byte ∨ t = .char ∨ t = .short) ∧ ∃ z, w = .int z) ∨ (i = .lreturn ∧ t = .long ∧ ∃ z, w = .long z) ∨ (i = .dreturn ∧ t = .double ∧ ∃ z, w = .double z) ∨ (i = .freturn ∧ t = .float ∧ ∃ z, w = .float z) ∨ (i = .areturn ∧ t.isReference = true ∧ w.isRef = true)
theorem o_iI {z : Int32} : o_hi .ireturn .int (.int z) := Or.inl ⟨rfl, Or.inl rfl, _, rfl⟩
theorem uN {z : Int32} : o_hi .ireturn .boolean (.int z) := Or.inl ⟨rfl, Or.inr (Or.inl rfl), _, rfl⟩
theorem o_iY {z : Int32} : o_hi .ireturn .byte (.int z) := Or.inl ⟨rfl, Or.inr (Or.inr (Or.inl rfl)), _, rfl⟩
theorem o_iC {z : Int32} : o_hi .ireturn .char (.int z) := Or.inl ⟨rfl, Or.inr (Or.inr (Or.inr (Or.inl rfl))), _, rfl⟩
theorem uA {t : FieldType} {w : Value} (h : t.isReference = true) (q : w.isRef = true) : o_hi .areturn t w := Or.inr (Or.inr (Or.inr (Or.inr ⟨rfl, h, q⟩)))
theorem o_fl (L : List Value) (hc : (L.all fun v => v.category == 1) = true) (acc : Array Slot) : L.foldl (fun acc v => if v.category = 2 then (acc.push (.val v)).push .second else acc.push (.val v)) acc = acc ++ (L.map Slot.val).toArray := by
 induction L generalizing acc with
 | nil => simp
 | cons a L ih =>
  simp only [List.all_cons, Bool.and_eq_true, beq_iff_eq] at hc
  rw [List.foldl_cons, if_neg (by omega), ih hc.2]; simp
theorem o_ef (m : MethodId) {n : Nat} (L : List Value) (k : Nat) (hc : (L.all fun v => v.category == 1) = true) (hn : L.length + k = n) : entryFrame m L.toArray n = mkF m 0 (L.map Slot.val ++ List.replicate k Slot.unset).toArray [] := by
 have q := o_fl L hc #[]
 have r : argsToLocals L.toArray n = (L.map Slot.val ++ List.replicate k Slot.unset).toArray := by
  unfold argsToLocals
  rw [List.foldl_toArray, q]; subst hn; simp
 exact congrArg (fun q => ({ method := m, pc := 0, locals := q, stack := [], locked := none } : JFrame)) r
theorem yP {Q : Option Value → Heap → List Loc → Prop} {C S : Nat} {n : Nat} {L : List Value} (k : Nat) (hc : (L.all fun v => v.category == 1) = true) (hn : L.length + k = n) (G : uR p e below s Q C S (T.setTop (mkF m 0 (L.map Slot.val ++ List.replicate k Slot.unset).toArray []))) : uR p e below s Q C S (T.setTop (entryFrame m L.toArray n)) := by rw [o_ef m L k hc hn]; exact G
theorem o_efW {Q : Option Value → Heap → List Loc → Prop} {C S : Nat} {n : Nat} {L : List Value} (k : Nat) (hc : (L.all fun v => v.category == 1) = true) (hn : L.length + k = n) (G : qV p e below s Z h0 Q C S (T.setTop (mkF m 0 (L.map Slot.val ++ List.replicate k Slot.unset).toArray []))) : qV p e below s Z h0 Q C S (T.setTop (entryFrame m L.toArray n)) := by rw [o_ef m L k hc hn]; exact G
theorem yW {Q : Option Value → Heap → List Loc → Prop} {C S : Nat} (X : Stand p l e R s m args below meth c T locs cells slots) (hk : meth.locks = false) (eT : T.heap = h) {pc : Nat} {Ls : Array Slot} {w : Value} {t : FieldType} {i : Instr} {rest : List Value} (hret : meth.sig.returnType = some t) (hn : narrow t w = w) (hi : o_hi i t w) (q : o_Q p c pc i 1) (D : cells ≤ C ∧ slots ≤ S) (hq : Q (some w) h locs) : uR p e below s Q C S (T.setTop (mkF m pc Ls (w :: rest))) := o_ret X q.1 hk eT hret hn hi q.2 D.1 D.2 hq
theorem uG {Q : Option Value → Heap → List Loc → Prop} {C S : Nat} (X : Stand p l e R s m args below meth c T locs cells slots) (hk : meth.locks = false) (eT : T.heap = h) {pc : Nat} {Ls : Array Slot} (hret : meth.sig.returnType = none) (q : o_Q p c pc .return_ 1) (D : cells ≤ C ∧ slots ≤ S) (hq : Q none h locs) : uR p e below s Q C S (T.setTop (mkF m pc Ls [])) := o_retV X q.1 hk eT hret q.2 D.1 D.2 hq
end OwnTight
section OwnStep
variable {p : Program} {l : Launch} {e : Env} {R : Room} {s : State} {m : MethodId} {args : Array Value} {below : List Frame} {meth : Method} {c : Code} {T t : State} {locs : List Loc} {cells slots pc : Nat} {Ls : Array Slot} {st : List Value}
theorem yC (X : Stand p l e R s m args below meth c T locs cells slots) {k : Fin 4} {v : Value} (q : o_Q p c pc (.aload_n k) 1) (hl : Ls[k.val]? = some (.val v)) (hv : v.isRef = true) (z : Steps p.tables e below (T.setTop (mkF m (pc + 1) Ls (v :: st))) t) : Steps p.tables e below (T.setTop (mkF m pc Ls st)) t := XS.aloadN (g := mkF m pc Ls st) X.here q.1 rfl q.2 hl hv z
theorem qN (X : Stand p l e R s m args below meth c T locs cells slots) {k : Nat} {v : Value} (q : o_Q p c pc (.aload k) 2) (hl : Ls[k]? = some (.val v)) (hv : v.isRef = true) (z : Steps p.tables e below (T.setTop (mkF m (pc + 2) Ls (v :: st))) t) : Steps p.tables e below (T.setTop (mkF m pc Ls st)) t := XS.aload (g := mkF m pc Ls st) X.here q.1 rfl q.2 hl hv z
theorem yE (X : Stand p l e R s m args below meth c T locs cells slots) {k : Fin 4} {v : Int32} (q : o_Q p c pc (.iload_n k) 1) (hl : Ls[k.val]? = some (.val (.int v))) (z : Steps p.tables e below (T.setTop (mkF m (pc + 1) Ls (.int v :: st))) t) : Steps p.tables e below (T.setTop (mkF m pc Ls st)) t := XS.iloadN (g := mkF m pc Ls st) X.here q.1 rfl q.2 hl z
theorem yJ (X : Stand p l e R s m args below meth c T locs cells slots) {k : Nat} {v : Int32} (q : o_Q p c pc (.iload k) 2) (hl : Ls[k]? = some (.val (.int v))) (z : Steps p.tables e below (T.setTop (mkF m (pc + 2) Ls (.int v :: st))) t) : Steps p.tables e below (T.setTop (mkF m pc Ls st)) t := XS.iload (g := mkF m pc Ls st) X.here q.1 rfl q.2 hl z
theorem yH (X : Stand p l e R s m args below meth c T locs cells slots) {i : Int} (q : o_Q p c pc (.iconst i) 1) (z : Steps p.tables e below (T.setTop (mkF m (pc + 1) Ls (.int (Int32.ofInt i) :: st))) t) : Steps p.tables e below (T.setTop (mkF m pc Ls st)) t := XS.iconst (g := mkF m pc Ls st) X.here q.1 rfl q.2 z
theorem yY (X : Stand p l e R s m args below meth c T locs cells slots) {i : Int} (q : o_Q p c pc (.bipush i) 2) (z : Steps p.tables e below (T.setTop (mkF m (pc + 2) Ls (.int (Int8.ofInt i).toInt32 :: st))) t) : Steps p.tables e below (T.setTop (mkF m pc Ls st)) t := XS.bipush (g := mkF m pc Ls st) X.here q.1 rfl q.2 z
theorem qJ (X : Stand p l e R s m args below meth c T locs cells slots) {x : Value} {rest : List Value} (q : o_Q p c pc (.dup) 1) (hs : st = x :: rest) (hc : x.category = 1) (z : Steps p.tables e below (T.setTop (mkF m (pc + 1) Ls (x :: x :: rest))) t) : Steps p.tables e below (T.setTop (mkF m pc Ls st)) t := XS.dup (g := mkF m pc Ls st) X.here q.1 rfl q.2 hs hc z
theorem qA (X : Stand p l e R s m args below meth c T locs cells slots) {cd : ClassFile.Cond} {o : Int} {x : Int32} {rest : List Value} (q : o_Q p c pc (.ifCond cd o) 3) (hs : st = .int x :: rest) (hc : ifCond.holds cd x = false) (z : Steps p.tables e below (T.setTop (mkF m (pc + 3) Ls (rest))) t) : Steps p.tables e below (T.setTop (mkF m pc Ls st)) t := XS.ifNo (g := mkF m pc Ls st) X.here q.1 rfl q.2 hs hc z
theorem qH (X : Stand p l e R s m args below meth c T locs cells slots) {cd : ClassFile.Cond} {o : Int} {x y : Int32} {rest : List Value} (q : o_Q p c pc (.if_icmp cd o) 3) (hs : st = .int y :: .int x :: rest) (hc : if_icmp.holds cd x y = false) (z : Steps p.tables e below (T.setTop (mkF m (pc + 3) Ls (rest))) t) : Steps p.tables e below (T.setTop (mkF m pc Ls st)) t := XS.icmpNo (g := mkF m pc Ls st) X.here q.1 rfl q.2 hs hc z
theorem yT (X : Stand p l e R s m args below meth c T locs cells slots) {o : Int} (pc0 pc' : Nat) (hpc : pc = pc0) (q : o_Q p c pc (.goto o) 3) (D : 0 ≤ (pc0 : Int) + o ∧ ((pc0 : Int) + o).toNat = pc') (z : Steps p.tables e below (T.setTop (mkF m pc' Ls (st))) t) : Steps p.tables e below (T.setTop (mkF m pc Ls st)) t := XS.goto (g := mkF m pc Ls st) X.here q.1 rfl hpc q.2 D.1 D.2 z
theorem qF (X : Stand p l e R s m args below meth c T locs cells slots) {cd : ClassFile.Cond} {o : Int} {x : Int32} {rest : List Value} (pc0 pc' : Nat) (hpc : pc = pc0) (q : o_Q p c pc (.ifCond cd o) 3) (hs : st = .int x :: rest) (hc : ifCond.holds cd x = true) (D : 0 ≤ (pc0 : Int) + o ∧ ((pc0 : Int) + o).toNat = pc') (z : Steps p.tables e below (T.setTop (mkF m pc' Ls (rest))) t) : Steps p.tables e below (T.setTop (mkF m pc Ls st)) t := XS.ifYes (g := mkF m pc Ls st) X.here q.1 rfl hpc q.2 hs hc D.1 D.2 z
theorem qG (X : Stand p l e R s m args below meth c T locs cells slots) {cd : ClassFile.Cond} {o : Int} {x y : Int32} {rest : List Value} (pc0 pc' : Nat) (hpc : pc = pc0) (q : o_Q p c pc (.if_icmp cd o) 3) (hs : st = .int y :: .int x :: rest) (hc : if_icmp.holds cd x y = true) (D : 0 ≤ (pc0 : Int) + o ∧ ((pc0 : Int) + o).toNat = pc') (z : Steps p.tables e below (T.setTop (mkF m pc' Ls (rest))) t) : Steps p.tables e below (T.setTop (mkF m pc Ls st)) t := XS.icmpYes (g := mkF m pc Ls st) X.here q.1 rfl hpc q.2 hs hc D.1 D.2 z
theorem qM (X : Stand p l e R s m args below meth c T locs cells slots) {k : Nat} {x : Int32} {rest : List Value} {l' : Array Slot} (q : o_Q p c pc (.istore k) 2) (hs : st = .int x :: rest) (hl : storeLocals Ls k (.int x) = some l') (z : Steps p.tables e below (T.setTop (mkF m (pc + 2) l' rest)) t) : Steps p.tables e below (T.setTop (mkF m pc Ls st)) t := XS.istore (g := mkF m pc Ls st) X.here q.1 rfl q.2 hs hl z
end OwnStep
variable {l : Launch} {Z : State} {a0 : Array Value} {h0 : Heap} {n0 : Nat}
theorem o_eqI {args : Array Value} {first s : State} {o : Option Outcome} {idx : List Nat} {t : Term} {k : Int32} (h : (Jvm.Cond.eq t (.int k)).value args first o s idx = some true) : t.eval args first o idx s = some (.int k) := by
 obtain ⟨y, h1, h2⟩ := Cond.eq_one (beq_iff_eq.mpr h : (Jvm.Cond.eq t (.int k)).holds args first o s idx = true)
 exact h1.trans (h2.symm.trans (Term.int_eval k))
theorem o_len {args : Array Value} {Z : State} {t : Term} {n : Int32} {a : Addr} {cl : Cell} {ty : FieldType} (A : Arr Z Z.heap a cl ty) (h : (Term.length t).eval args Z none [] Z = some (.int n)) (ht : t.eval args Z none [] Z = some (.ref a)) : cl.slots.size < 2 ^ 31 ∧ cl.slots.size.toInt32 = n := by
 have ha : Z.arrayAt? a = some cl := A.fin (Vm.Alike.refl _)
 by_cases hn : cl.slots.size < 2 ^ 31
 · have q := len_f ht ha hn
   cases h.symm.trans q
   exact ⟨hn, rfl⟩
 · simp [Term.eval, ht, ha] at h
   exact absurd h.1 hn
def uB (Z : State) : Prop := Sta Z Z.heap sN11 "$assertionsDisabled" "Z" (.int 1) ∧ Sta Z Z.heap sN11 "HI_BYTE_SHIFT" "I" (.int 0) ∧ Sta Z Z.heap sN11 "LO_BYTE_SHIFT" "I" (.int 8)
theorem o_narB (x : Int32) : (StrChars.lo8 x).toInt8.toInt32 = StrChars.lo8 x := by
 show (x.toInt8.toInt32).toInt8.toInt32 = x.toInt8.toInt32
 rw [Int8.toInt8_toInt32]
theorem o_narH (x : Int32) : (StrChars.hi8 x).toInt8.toInt32 = StrChars.hi8 x := o_narB _
theorem o_rc16 {c : Int32} (h : ¬ c < 0 ∧ ¬ (65535 : Int32) < c) : narrow .char (.int c) = .int c := by show Value.int (nar .char c) = _; rw [uF h]
theorem o_gin {L : List Int32} {k : Nat} {Q : Int32 → Prop} (hb : ∀ c ∈ L, Q c) (h : k < L.length) : Q (L.getD k 0) := by
 rw [List.getD_eq_getElem?_getD, List.getElem?_eq_getElem h]; exact hb _ (List.getElem_mem h)
theorem o_gm (L : List Int32) (k : Nat) : (L.map Value.int).getD k (.int 0) = .int (L.getD k 0) := by
 simp only [List.getD_eq_getElem?_getD, List.getElem?_map]
 cases L[k]? <;> rfl
theorem o_shlN : ∀ i : Fin 41, (ofNat i.val <<< ((1 : Int32) &&& 31)) = ofNat (2 * i.val) := by decide +kernel
theorem o_shl {i : Nat} (h : i ≤ 40) : (ofNat i <<< ((1 : Int32) &&& 31)) = ofNat (2 * i) := o_shlN ⟨i, by omega⟩
theorem o_cdN : ∀ k : Fin 21, k.val = 0 ∨ ((((ofNat k.val - ofNat (2 * k.val)).toUInt32 >>> ((31 : Int32) &&& 31).toUInt32).toInt32).toInt8.toInt32) = 1 := by decide +kernel
def o_wb (cs : List Int32) (i : Nat) : List Value := StrChars.Road.wideBytes (cs.take i) ++ List.replicate (2 * (cs.length - i)) (.int 0)
theorem o_wb0 (c : Int32) (cs : List Int32) : o_wb (c :: cs) 0 = .int 0 :: .int 0 :: o_wb cs 0 := by
 unfold o_wb
 have e : 2 * ((c :: cs).length - 0) = 2 * (cs.length - 0) + 2 := by rw [List.length_cons]; omega
 rw [e]; rfl
theorem o_wbC (c : Int32) (cs : List Int32) (i : Nat) : o_wb (c :: cs) (i + 1) = .int (StrChars.lo8 c) :: .int (StrChars.hi8 c) :: o_wb cs i := by
 unfold o_wb
 have e : 2 * ((c :: cs).length - (i + 1)) = 2 * (cs.length - i) := by rw [List.length_cons]; omega
 rw [e]; rfl
theorem o_wbS : ∀ (cs : List Int32) (i : Nat), i < cs.length → ((o_wb cs i).set (2 * i) (.int (StrChars.lo8 (cs.getD i 0)))).set (2 * i + 1) (.int (StrChars.hi8 (cs.getD i 0))) = o_wb cs (i + 1)
 | [], _, h => nomatch h
 | c :: cs, 0, _ => by rw [o_wb0, o_wbC]; rfl
 | c :: cs, i + 1, h => by
  have ih := o_wbS cs i (Nat.lt_of_succ_lt_succ h)
  rw [o_wbC, o_wbC, ← ih, show 2 * (i + 1) = 2 * i + 1 + 1 from by omega, show 2 * i + 1 + 1 + 1 = (2 * i + 1) + 1 + 1 from rfl]
  rfl
theorem o_wbL : ∀ (cs : List Int32) (i : Nat), i ≤ cs.length → (o_wb cs i).length = 2 * cs.length
 | cs, 0, _ => by unfold o_wb; simp [StrChars.Road.wideBytes]
 | [], i + 1, h => nomatch h
 | c :: cs, i + 1, h => by
  rw [o_wbC, List.length_cons, List.length_cons, o_wbL cs i (Nat.le_of_succ_le_succ h), List.length_cons]; omega
theorem o_wbE (cs : List Int32) : o_wb cs cs.length = StrChars.Road.wideBytes cs := by
 unfold o_wb
 rw [List.take_length, Nat.sub_self]
 exact List.append_nil _
theorem d6 : yX jdk_52_method_21_code [(0, .iconst 0, 1), (1, .istore 5, 2), (3, .iload 5, 2), (5, .iload 4, 2), (7, .if_icmp .ge 37, 3), (10, .aload_n 0, 1), (11, .iload_n 1, 1), (12, .caload, 1), (13, .istore 6, 2), (15, .iload 6, 2), (17, .sipush 255, 3), (20, .if_icmp .le 6, 3), (23, .iload 5, 2), (25, .ireturn, 1), (26, .aload_n 2, 1), (27, .iload_n 3, 1), (28, .iload 6, 2), (30, .i2b, 1), (31, .bastore, 1), (32, .iinc 1 1, 3), (35, .iinc 3 1, 3), (38, .iinc 5 1, 3), (41, .goto (-38), 3), (44, .iload 4, 2), (46, .ireturn, 1)] := by decide +kernel
theorem pd0 : plainName sN11 = true := by first | (simp [plainName, overriddenIn]; done) | decide +kernel
abbrev cmNR : Room := { frames := 0, cells := 0, slots := 0, locals := 0 }
theorem cmN (hw : yQ a0 Z) (a1 a2 : Nat) (k1 k2 : ClassId) (cs : List Int32) (kf : Nat) (vs : List Value) (O0 : Old Z n0 h0) (hk : cs.length ≤ 20) (hf : kf ≤ cs.length) (hf1 : ∀ j, j < kf → ¬ (255 : Int32) < cs.getD j 0) (hf2 : kf < cs.length → (255 : Int32) < cs.getD kf 0) (V1 : Arv Z h0 a1 k1 .char (ofNat cs.length) (cs.map Value.int) (.int 0)) (g2 : n0 ≤ a2) (V2 : Arv Z h0 a2 k2 .byte (ofNat cs.length) vs (.int 0)) (hv : vs.length = cs.length) (h12 : a1 ≠ a2) :
 yZ l Z (⟨sN11, "compress", "([CI[BII)I"⟩ : MethodName) jdk_52_method_21_code 7 (some .int) [] cmNR #[(.ref a1), (.int (0 : Int32)), (.ref a2), (.int (0 : Int32)), (.int (ofNat cs.length))] h0 (fun v h L => v = some (.int (ofNat kf)) ∧ Fr n0 L ∧ Keep h0 h [a2] ∧ ∃ vs' : List Value, Arv Z h a2 k2 .byte (ofNat cs.length) vs' (.int 0) ∧ vs'.length = cs.length ∧ uU (cs.take kf) vs') := by
 refine yK (plainFor_of_name pd0) ?_
 intro p e s m below meth c T0 X0 hx hby hml hZ hown hnm hret hlk e0
 have W := qC hw
 have Q := @yR p c _ _ _ hx hby d6
 have N0 := Fr.nil n0
 have zO := yM O0
 refine yP 2 rfl rfl ?_
 refine yG m 0 #[rv a1, iv (0 : Int32), rv a2, iv (0 : Int32), iv (ofNat cs.length), .unset, .unset] [] ?_
 refine yA (fun _ z_ => yH X0 (Q 0) (qM X0 (Q 1) rfl rfl z_)) ?_
 suffices G101 : ∀ (r : Nat) (Tj : State) (Lj : List Loc) (hL101 : Heap) (i : Nat) (vsj : List Value) (sl6 : Slot), (kf - i = r) → (Keep h0 hL101 [a2]) → (Arv Z hL101 a2 k2 .byte (ofNat cs.length) vsj (.int 0)) → (i ≤ kf) → (vsj.length = cs.length) → (uU (cs.take i) vsj) → (sl6 = .unset ∨ ∃ w, sl6 = .val w ∧ w.category = 1) → Stand p l e cmNR s m #[(.ref a1), (.int (0 : Int32)), (.ref a2), (.int (0 : Int32)), (.int (ofNat cs.length))] below meth c Tj Lj 0 0 → Tj.heap = hL101 → Fr n0 Lj → uR p e below s (fun v h L => v = some (.int (ofNat kf)) ∧ Fr n0 L ∧ Keep h0 h [a2] ∧ ∃ vs' : List Value, Arv Z h a2 k2 .byte (ofNat cs.length) vs' (.int 0) ∧ vs'.length = cs.length ∧ uU (cs.take kf) vs') cmNR.cells cmNR.slots (Tj.setTop (mkF m 3 #[rv a1, iv (ofNat i), rv a2, iv (ofNat i), iv (ofNat cs.length), iv (ofNat i), sl6] [])) by
  exact G101 _ _ _ _ 0 _ _ rfl (Keep.refl _ _) V2 (Nat.zero_le _) hv (uU.nil _) (Or.inl rfl) X0 e0 N0
 intro r
 induction r using Nat.strongRecOn with
 | _ r ih =>
  intro TG101 LG101 hL101 i vsj sl6 hm KL101 Vj hik hvl hwj hsl6 XG101 eG101 NG101
  have zKL101 := KL101.1
  refine yA (fun _ z_ => yJ XG101 (Q 2) rfl (yJ XG101 (Q 3) rfl z_)) ?_
  by_cases c102 : (ofNat i) < (ofNat cs.length)
  · refine yA (fun _ z_ => qH XG101 (Q 4) rfl (tlt c102).2.1 z_) ?_
    have hil : i < cs.length := (qP (by omega) (by omega)).mp c102
    refine yA (fun _ z_ => yC XG101 (Q 5) rfl rfl (yE XG101 (Q 6) rfl z_)) ?_
    have f103 := (V1.keep KL101 (yB (by omega) nin0))
    have zo := f103
    obtain ⟨c104, Ar104, q104, S104, M104, H104, U104⟩ := zo
    have hi104 := inb_of (j := (ofNat i)) S104 ⟨uK (by omega), (qP (by omega) (by omega)).mpr (by omega)⟩
    refine yA (XG101.caload hx (j := (ofNat i)) (v := (.int (cs.getD i 0))) (by rw [eG101]; exact Ar104.1) (State.isArrayOf_alike hZ.alike Ar104.2.1) Ar104.2.2 hi104 (H104.at hi104 (by rw [qU (by omega)]; exact o_gm cs i)) (g := (mkF m 12 #[rv a1, iv (ofNat i), rv a2, iv (ofNat i), iv (ofNat cs.length), iv (ofNat i), sl6] [(.int (ofNat i)), (.ref a1)])) rfl rfl (Q 7).2) ?_
    refine yA (fun _ z_ => XS.istoreS XG101.here hx rfl (Q 8).2 rfl (o := sl6) rfl hsl6 (yJ XG101 (Q 9) rfl (XS.sipush XG101.here hx rfl (Q 10).2 z_))) ?_
    by_cases c105 : (255 : Int32) < (cs.getD i 0)
    · refine yA (fun _ z_ => qH XG101 (Q 11) rfl (tlt c105).2.2.2 (yJ XG101 (Q 12) rfl z_)) ?_
      refine yG m 25 #[rv a1, iv (ofNat i), rv a2, iv (ofNat i), iv (ofNat cs.length), iv (ofNat i), iv (cs.getD i 0)] [(.int (ofNat i))] ?_
      have hki : kf = i := by
       have q : ¬ i < kf := fun q => hf1 i q c105
       omega
      exact yW XG101 hlk eG101 hret rfl o_iI (Q 13) (by decide) ⟨by rw [hki], NG101, KL101, _, Vj, hvl, (by rw [hki]; exact hwj)⟩
    · refine yA (fun _ z_ => qG XG101 20 26 rfl (Q 11) rfl (flt c105).2.2.2 (by decide) (yC XG101 (Q 14) rfl rfl (yE XG101 (Q 15) rfl (yJ XG101 (Q 16) rfl (XS.i2b XG101.here hx rfl (Q 17).2 rfl z_))))) ?_
      refine yG m 31 #[rv a1, iv (ofNat i), rv a2, iv (ofNat i), iv (ofNat cs.length), iv (ofNat i), iv (cs.getD i 0)] [(.int ((cs.getD i 0).toInt8.toInt32)), (.int (ofNat i)), (.ref a2)] ?_
      show  uR p e below s _ _ _ (TG101.setTop (mkF m 31 #[rv a1, iv (ofNat i), rv a2, iv (ofNat i), iv (ofNat cs.length), iv (ofNat i), iv (cs.getD i 0)] [(.int (StrChars.lo8 (cs.getD i 0))), (.int (ofNat i)), (.ref a2)]))
      obtain ⟨c106, Ar106, q106, S106, M106, H106, U106⟩ := Vj
      refine qL (stB XG101 hx hZ eG101 Ar106 (j := (ofNat i)) (inb_of S106 ⟨uK (by omega), (qP (by omega) (by omega)).mpr (by omega)⟩) rfl rfl (Q 18).2) ?_
      intro T106 h106 X106 e106 W106
      have V106 := Arv.set Ar106 q106 S106 M106 H106 U106 (fits_nar_byte _) W106 i (qU (by omega)) (by rw [hvl]; omega)
      rw [o_narB] at V106
      have K106 := Keep.of_wr W106
      have N106 := Fr.snoc X106 NG101 (by omega : n0 ≤ a2)
      have zK106 := K106.1
      refine yA (fun _ z_ => XS.iinc X106.here hx rfl (Q 19).2 rfl rfl (XS.iinc X106.here hx rfl (Q 20).2 rfl rfl (XS.iinc X106.here hx rfl (Q 21).2 rfl rfl (yT X106 41 3 rfl (Q 22) (by decide) z_)))) ?_
      refine yG m 3 #[rv a1, iv ((ofNat i) + (1 : Int32)), rv a2, iv ((ofNat i) + (1 : Int32)), iv (ofNat cs.length), iv ((ofNat i) + (1 : Int32)), iv (cs.getD i 0)] [] ?_
      have hlt : i < kf := by
       have q : ¬ i = kf := fun q => c105 (q ▸ hf2 (by omega))
       omega
      rw [show ofNat i + (1 : Int32) = ofNat (i + 1) from uD (b := 1) (by omega)]
      refine yG m 3 #[rv a1, iv (ofNat (i + 1)), rv a2, iv (ofNat (i + 1)), iv (ofNat cs.length), iv (ofNat (i + 1)), iv (cs.getD i 0)] [] ?_
      have el_ : (cs.take i).length = i := by rw [List.length_take]; omega
      have hn_ := uU.put hwj (by rw [el_]; omega) (cs.getD i 0)
      rw [el_, ← o_tkS cs i hil] at hn_
      have KK107 := yF (yF (Keep.refl h0 [a2]) KL101) K106
      exact ih _ (by omega) _ _ _ (i + 1) _ _ rfl KK107 V106 hlt (by rw [List.length_set]; exact hvl) hn_ (Or.inr ⟨_, rfl, rfl⟩) X106 e106 N106
  · refine yA (fun _ z_ => qG XG101 7 44 rfl (Q 4) rfl (flt c102).2.1 (by decide) (yJ XG101 (Q 23) rfl z_)) ?_
    have hki : ¬ i < cs.length := fun q => c102 ((qP (by omega) (by omega)).mpr q)
    have hkl : kf = cs.length := by omega
    have hkj : kf = i := by omega
    exact yW XG101 hlk eG101 hret rfl o_iI (Q 24) (by decide) ⟨by rw [hkl], NG101, KL101, _, Vj, hvl, (by rw [hkj]; exact hwj)⟩
theorem d87 : yX jdk_52_method_4_code [(0, .getstatic 44, 3), (3, .ifCond .ne 25, 3), (28, .iload_n 1, 1), (29, .iconst 1, 1), (30, .ishl, 1), (31, .istore_n 1, 1), (32, .aload_n 0, 1), (33, .iload_n 1, 1), (34, .iinc 1 1, 3), (37, .iload_n 2, 1), (38, .getstatic 59, 3), (41, .ishr, 1), (42, .i2b, 1), (43, .bastore, 1), (44, .aload_n 0, 1), (45, .iload_n 1, 1), (46, .iload_n 2, 1), (47, .getstatic 63, 3), (50, .ishr, 1), (51, .i2b, 1), (52, .bastore, 1), (53, .return_, 1)] := by decide +kernel
abbrev pcNR : Room := { frames := 0, cells := 0, slots := 0, locals := 0 }
theorem pcN (hw : yQ a0 Z) (a1 : Nat) (k1 : ClassId) (cq : Int32) (i mm : Nat) (vs : List Value) (O0 : Old Z n0 h0) (UT : uB Z) (g1 : n0 ≤ a1) (hmm : mm ≤ 40) (hi : 2 * i + 1 < mm) (hv : vs.length = mm) (V1 : Arv Z h0 a1 k1 .byte (ofNat mm) vs (.int 0)) :
 yZ l Z mN18 jdk_52_method_4_code 3 none [] pcNR #[(.ref a1), (.int (ofNat i)), (.int cq)] h0 (fun v h L => v = none ∧ Fr n0 L ∧ Keep h0 h [a1] ∧ Arv Z h a1 k1 .byte (ofNat mm) ((vs.set (2 * i) (.int (StrChars.lo8 cq))).set (2 * i + 1) (.int (StrChars.hi8 cq))) (.int 0)) := by
 refine yK (plainFor_of_name pd0) ?_
 intro p e s m below meth c T0 X0 hx hby hml hZ hown hnm hret hlk e0
 have W := qC hw
 have Q := @yR p c _ _ _ hx hby d87
 have N0 := Fr.nil n0
 have zO := yM O0
 have zo := UT
 obtain ⟨Ua, Uh, Ul⟩ := zo
 refine yP 0 rfl rfl ?_
 refine yG m 0 #[rv a1, iv (ofNat i), iv cq] [] ?_
 refine yO (getS2 X0 hx hZ hown (host := "") (Or.inl (W 480)) Via.refl e0 (Ua.ext O0.2) rfl (Q 0).2) ?_
 intro T101 X101 e101
 refine yA (fun _ z_ => qF X101 3 28 rfl (Q 1) rfl ((if0 _ _).trans (feq (by decide)).2) (by decide) (yE X101 (Q 2) rfl (yH X101 (Q 3) (XS.ishl X101.here hx rfl (Q 4).2 rfl z_)))) ?_
 refine yG m 31 #[rv a1, iv (ofNat i), iv cq] [(.int ((ofNat i) <<< ((1 : Int32) &&& 31)))] ?_
 rw [o_shl (by omega)]
 refine yA (fun _ z_ => XS.istoreN X101.here hx rfl (Q 5).2 rfl rfl (yC X101 (Q 6) rfl rfl (yE X101 (Q 7) rfl (XS.iinc X101.here hx rfl (Q 8).2 rfl rfl z_)))) ?_
 refine yG m 37 #[rv a1, iv ((ofNat (2 * i)) + (1 : Int32)), iv cq] [(.int (ofNat (2 * i))), (.ref a1)] ?_
 rw [show ofNat (2 * i) + (1 : Int32) = ofNat (2 * i + 1) from uD (b := 1) (by omega)]
 refine yA (fun _ z_ => yE X101 (Q 9) rfl z_) ?_
 refine yO (getS2 X101 hx hZ hown (host := "") (Or.inl (W 481)) Via.refl e101 (Uh.ext O0.2) rfl (Q 10).2) ?_
 intro T102 X102 e102
 refine yA (fun _ z_ => XS.ishr X102.here hx rfl (Q 11).2 rfl (XS.i2b X102.here hx rfl (Q 12).2 rfl z_)) ?_
 refine yG m 43 #[rv a1, iv (ofNat (2 * i + 1)), iv cq] [(.int ((cq >>> ((0 : Int32) &&& 31)).toInt8.toInt32)), (.int (ofNat (2 * i))), (.ref a1)] ?_
 rw [StrChars.shr0]
 show  uR p e below s _ _ _ (T102.setTop (mkF m 43 #[rv a1, iv (ofNat (2 * i + 1)), iv cq] [(.int (StrChars.lo8 cq)), (.int (ofNat (2 * i))), (.ref a1)]))
 obtain ⟨c103, Ar103, q103, S103, M103, H103, U103⟩ := V1
 refine qL (stB X102 hx hZ e102 Ar103 (j := (ofNat (2 * i))) (inb_of S103 ⟨uK (by omega), (qP (by omega) (by omega)).mpr (by omega)⟩) rfl rfl (Q 13).2) ?_
 intro T103 h103 X103 e103 W103
 have V103 := Arv.set Ar103 q103 S103 M103 H103 U103 (fits_nar_byte _) W103 (2 * i) (qU (by omega)) (by omega)
 rw [o_narB] at V103
 have K103 := Keep.of_wr W103
 have N103 := Fr.snoc X103 N0 (by omega : n0 ≤ a1)
 have zK103 := K103.1
 refine yA (fun _ z_ => yC X103 (Q 14) rfl rfl (yE X103 (Q 15) rfl (yE X103 (Q 16) rfl z_))) ?_
 have O105 : Old Z n0 h103 := O0.keep K103 (allS (by omega) all0)
 refine yO (getS2 X103 hx hZ hown (host := "") (Or.inl (W 482)) Via.refl e103 (Ul.ext O105.2) rfl (Q 17).2) ?_
 intro T104 X104 e104
 refine yA (fun _ z_ => XS.ishr X104.here hx rfl (Q 18).2 rfl (XS.i2b X104.here hx rfl (Q 19).2 rfl z_)) ?_
 refine yG m 52 #[rv a1, iv (ofNat (2 * i + 1)), iv cq] [(.int ((cq >>> ((8 : Int32) &&& 31)).toInt8.toInt32)), (.int (ofNat (2 * i + 1))), (.ref a1)] ?_
 show  uR p e below s _ _ _ (T104.setTop (mkF m 52 #[rv a1, iv (ofNat (2 * i + 1)), iv cq] [(.int (StrChars.hi8 cq)), (.int (ofNat (2 * i + 1))), (.ref a1)]))
 obtain ⟨c106, Ar106, q106, S106, M106, H106, U106⟩ := V103
 refine qL (stB X104 hx hZ e104 Ar106 (j := (ofNat (2 * i + 1))) (inb_of S106 ⟨uK (by omega), (qP (by omega) (by omega)).mpr (by omega)⟩) rfl rfl (Q 20).2) ?_
 intro T106 h106 X106 e106 W106
 have V106 := Arv.set Ar106 q106 S106 M106 H106 U106 (fits_nar_byte _) W106 (2 * i + 1) (qU (by omega)) (by rw [List.length_set]; omega)
 rw [o_narH] at V106
 have K106 := Keep.of_wr W106
 have N106 := Fr.snoc X106 N103 (by omega : n0 ≤ a1)
 have zK106 := K106.1
 have KK107 := yF (yF (Keep.refl h0 [a1]) K103) K106
 exact uG X106 hlk e106 hret (Q 21) (by decide) ⟨rfl, N106, KK107, V106⟩
theorem d86 : yX jdk_52_method_3_code [(0, .iload_n 0, 1), (1, .ifCond .ge 11, 3), (12, .iload_n 0, 1), (13, .ldc 20, 2), (15, .if_icmp .lt 40, 3), (55, .iload_n 0, 1), (56, .iconst 1, 1), (57, .ishl, 1), (58, .ireturn, 1)] := by decide +kernel
abbrev nlNR : Room := { frames := 0, cells := 0, slots := 0, locals := 0 }
theorem nlN (hw : yQ a0 Z) (i : Nat) (O0 : Old Z n0 h0) (hi : i ≤ 40) :
 yZ l Z (⟨sN11, "newBytesLength", "(I)I"⟩ : MethodName) jdk_52_method_3_code 1 (some .int) [] nlNR #[(.int (ofNat i))] h0 (fun v h L => v = some (.int (ofNat (2 * i))) ∧ Fr n0 L ∧ h = h0) := by
 refine yK (plainFor_of_name pd0) ?_
 intro p e s m below meth c T0 X0 hx hby hml hZ hown hnm hret hlk e0
 have W := qC hw
 have Q := @yR p c _ _ _ hx hby d86
 have N0 := Fr.nil n0
 have zO := yM O0
 refine yP 0 rfl rfl ?_
 refine yG m 0 #[iv (ofNat i)] [] ?_
 refine yA (fun _ z_ => yE X0 (Q 0) rfl (qF X0 1 12 rfl (Q 1) rfl ((if0 _ _).trans (flt (uK (by omega))).2.1) (by decide) (yE X0 (Q 2) rfl z_))) ?_
 refine yA (X0.ldcInt hx hown (mvT hZ (W 476)) (g := (mkF m 13 #[iv (ofNat i)] [(.int (ofNat i))])) rfl (Q 3).2) ?_
 refine yA (fun _ z_ => qG X0 15 55 rfl (Q 4) rfl (tlt ((qP (b := 1073741823) (by omega) (by omega)).mpr (by omega))).1 (by decide) (yE X0 (Q 5) rfl (yH X0 (Q 6) (XS.ishl X0.here hx rfl (Q 7).2 rfl z_)))) ?_
 refine yG m 58 #[iv (ofNat i)] [(.int ((ofNat i) <<< ((1 : Int32) &&& 31)))] ?_
 rw [o_shl hi]
 exact yW X0 hlk e0 hret rfl o_iI (Q 8) (by decide) ⟨rfl, N0, rfl⟩
theorem d85 : yX jdk_52_method_2_code [(0, .iload_n 0, 1), (1, .invokestatic 11, 3), (4, .newarray .byte, 2), (6, .areturn, 1)] := by decide +kernel
theorem pd1 : parseMethodDescriptor "(I)I" = some ⟨[.int], some .int⟩ := by decide +kernel
abbrev nfNR : Room := { frames := 1, cells := 1, slots := 40, locals := 12 }
theorem nfN (hw : yQ a0 Z) (i : Nat) (O0 : Old Z n0 h0) (hi : i ≤ 20) :
 yZ l Z mN40 jdk_52_method_2_code 1 (some (.array .byte)) [] nfNR #[(.int (ofNat i))] h0 (fun v h L => Fr n0 L ∧ ∃ (b : Nat) (kb : ClassId), v = some (.ref b) ∧ Keep h0 h [] ∧ h0.size ≤ b ∧ b < h.size ∧ Arv Z h b kb .byte (ofNat (2 * i)) (List.replicate (2 * i) (.int 0)) (.int 0)) := by
 refine yK (plainFor_of_name pd0) ?_
 intro p e s m below meth c T0 X0 hx hby hml hZ hown hnm hret hlk e0
 have hM := @qK _ _ hml
 have W := qC hw
 have Q := @yR p c _ _ _ hx hby d85
 have N0 := Fr.nil n0
 have zO := yM O0
 refine yP 0 rfl rfl ?_
 refine yG m 0 #[iv (ofNat i)] [] ?_
 refine yA (fun _ z_ => yE X0 (Q 0) rfl z_) ?_
 refine yL (qD X0 hZ (y := (⟨sN11, "newBytesLength", "(I)I"⟩ : MethodName)) hown (W 473) (W 474) (W 24) (W 475) 0 (nlN hw i O0 (by omega)) e0 (by decide) rfl (hM rfl) [(.int (ofNat i))] (rest := []) pd1 rfl rfl rfl rfl rfl (Q 1)) ?_
 rintro T101 _ _ h101 X101 e101 ⟨rfl, N101q, hq101⟩
 replace e101 := e101.trans hq101
 have N101 := Fr.app N0 N101q
 have zo := newP X101 hx hZ (aty := .byte) (W 26) e101 (g := (mkF m 4 #[iv (ofNat i)] [(.int (ofNat (2 * i)))])) rfl (Q 2).2 rfl (uK (by omega)) (cap := 40) (by rw [qU (by omega)]; omega) (by decide) (by decide) (by decide)
 obtain ⟨T102, h102, k102, X102, e102, E102, A102, st102⟩ := zo
 have zo : ∃ z, z = h0.size := ⟨_, rfl⟩
 obtain ⟨b102, g102⟩ := zo
 rw [← g102] at A102 st102
 have K102 : Keep h0 h102 [] := (Keep.refl _ _).ext E102
 have l102 : b102 < h102.size := A102.lt
 refine yA st102 ?_
 have zK102 := K102.1
 have V102 := Arv.new A102 (uK (by omega))
 have V102p : Arv Z h102 b102 _ .byte (ofNat (2 * i)) (List.replicate (2 * i) (.int 0)) (.int 0) := V102.pad (pad_rep [] (.int (0 : Int32)) (2 * i))
 exact yW X102 hlk e102 hret rfl (uA rfl rfl) (Q 3) (by decide) ⟨N101, b102, _, rfl, K102, by omega, V102p.lt, V102p⟩
theorem d84 : yX jdk_52_method_14_code [(0, .iload_n 2, 1), (1, .invokestatic 107, 3), (4, .astore_n 3, 1), (5, .iconst 0, 1), (6, .istore 4, 2), (8, .iload 4, 2), (10, .iload_n 2, 1), (11, .if_icmp .ge 21, 3), (14, .aload_n 3, 1), (15, .iload 4, 2), (17, .aload_n 0, 1), (18, .iload_n 1, 1), (19, .caload, 1), (20, .invokestatic 111, 3), (23, .iinc 1 1, 3), (26, .iinc 4 1, 3), (29, .goto (-21), 3), (32, .aload_n 3, 1), (33, .areturn, 1)] := by decide +kernel
theorem pd2 : parseMethodDescriptor "(I)[B" = some ⟨[.int], some (.array .byte)⟩ := by decide +kernel
theorem pd3 : parseMethodDescriptor "([BII)V" = some ⟨[(.array .byte), .int, .int], none⟩ := by decide +kernel
abbrev tbNR : Room := { frames := 2, cells := 1, slots := 40, locals := 24 }
theorem tbN (hw : yQ a0 Z) (a1 : Nat) (k1 : ClassId) (cs : List Int32) (O0 : Old Z n0 h0) (UT : uB Z) (hk : cs.length ≤ 20) (V1 : Arv Z h0 a1 k1 .char (ofNat cs.length) (cs.map Value.int) (.int 0)) :
 yZ l Z (⟨sN11, "toBytes", "([CII)[B"⟩ : MethodName) jdk_52_method_14_code 5 (some (.array .byte)) [] tbNR #[(.ref a1), (.int (0 : Int32)), (.int (ofNat cs.length))] h0 (fun v h L => Fr n0 L ∧ ∃ (b : Nat) (kb : ClassId), v = some (.ref b) ∧ Keep h0 h [] ∧ h0.size ≤ b ∧ b < h.size ∧ Arv Z h b kb .byte (ofNat (2 * cs.length)) (StrChars.Road.wideBytes cs) (.int 0)) := by
 refine yK (plainFor_of_name pd0) ?_
 intro p e s m below meth c T0 X0 hx hby hml hZ hown hnm hret hlk e0
 have hM := @qK _ _ hml
 have W := qC hw
 have Q := @yR p c _ _ _ hx hby d84
 have N0 := Fr.nil n0
 have zO := yM O0
 have la1 : a1 < h0.size := V1.lt
 refine yP 2 rfl rfl ?_
 refine yG m 0 #[rv a1, iv (0 : Int32), iv (ofNat cs.length), .unset, .unset] [] ?_
 refine yA (fun _ z_ => yE X0 (Q 0) rfl z_) ?_
 refine yL (qD X0 hZ (y := mN40) hown (W 470) (W 471) (W 24) (W 472) 0 (nfN hw cs.length O0 (by omega)) e0 (by decide) rfl (hM rfl) [(.int (ofNat cs.length))] (rest := []) pd2 rfl rfl rfl rfl rfl (Q 1)) ?_
 rintro T101 _ _ h101 X101 e101 ⟨N101q, b101, k101, rfl, K101, zb101, zc101, V101⟩
 have zK101 := K101.1
 have N101 := Fr.app N0 N101q
 refine yA (fun _ z_ => XS.astoreN X101.here hx rfl (Q 2).2 rfl rfl rfl (yH X101 (Q 3) (qM X101 (Q 4) rfl rfl z_))) ?_
 suffices G102 : ∀ (r : Nat) (Tj : State) (Lj : List Loc) (hL102 : Heap) (i : Nat) , (cs.length - i = r) → (Keep h101 hL102 [b101]) → (Arv Z hL102 b101 k101 .byte (ofNat (2 * cs.length)) (o_wb cs i) (.int 0)) → (i ≤ cs.length) → Stand p l e tbNR s m #[(.ref a1), (.int (0 : Int32)), (.int (ofNat cs.length))] below meth c Tj Lj 1 40 → Tj.heap = hL102 → Fr n0 Lj → uR p e below s (fun v h L => Fr n0 L ∧ ∃ (b : Nat) (kb : ClassId), v = some (.ref b) ∧ Keep h0 h [] ∧ h0.size ≤ b ∧ b < h.size ∧ Arv Z h b kb .byte (ofNat (2 * cs.length)) (StrChars.Road.wideBytes cs) (.int 0)) tbNR.cells tbNR.slots (Tj.setTop (mkF m 8 #[rv a1, iv (ofNat i), iv (ofNat cs.length), rv b101, iv (ofNat i)] [])) by
  exact G102 _ _ _ _ 0  rfl (Keep.refl _ _) (by show Arv _ _ _ _ _ _ (List.replicate _ _) _; exact V101) (Nat.zero_le _) X101 e101 N101
 intro r
 induction r using Nat.strongRecOn with
 | _ r ih =>
  intro TG102 LG102 hL102 i  hm KL102 Vj hin XG102 eG102 NG102
  have zKL102 := KL102.1
  refine yA (fun _ z_ => yJ XG102 (Q 5) rfl (yE XG102 (Q 6) rfl z_)) ?_
  by_cases c103 : (ofNat i) < (ofNat cs.length)
  · refine yA (fun _ z_ => qH XG102 (Q 7) rfl (tlt c103).2.1 z_) ?_
    have hlt : i + 1 ≤ cs.length := (qP (by omega) (by omega)).mp c103
    refine yA (fun _ z_ => yC XG102 (Q 8) rfl rfl (yJ XG102 (Q 9) rfl (yC XG102 (Q 10) rfl rfl (yE XG102 (Q 11) rfl z_)))) ?_
    have KK104 := yN (yI (Keep.refl h0 []) K101) KL102
    have f105 := (V1.keep KK104 nin0)
    have zo := f105
    obtain ⟨c106, Ar106, q106, S106, M106, H106, U106⟩ := zo
    have hi106 := inb_of (j := (ofNat i)) S106 ⟨uK (by omega), (qP (by omega) (by omega)).mpr (by omega)⟩
    refine yA (XG102.caload hx (j := (ofNat i)) (v := (.int (cs.getD i 0))) (by rw [eG102]; exact Ar106.1) (State.isArrayOf_alike hZ.alike Ar106.2.1) Ar106.2.2 hi106 (H106.at hi106 (by rw [qU (by omega)]; exact o_gm cs i)) (g := (mkF m 19 #[rv a1, iv (ofNat i), iv (ofNat cs.length), rv b101, iv (ofNat i)] [(.int (ofNat i)), (.ref a1), (.int (ofNat i)), (.ref b101)])) rfl rfl (Q 12).2) ?_
    have O107 : Old Z n0 hL102 := O0.keep KK104 all0
    refine yL (qD XG102 hZ (y := mN18) hown (W 477) (W 478) (W 24) (W 479) 0 (pcN hw b101 _ (cs.getD i 0) i (2 * cs.length) _ O107 UT (by omega) (by omega) (by omega) (o_wbL cs i (by omega)) Vj) eG102 (by decide) rfl (hM rfl) [(.ref b101), (.int (ofNat i)), (.int (cs.getD i 0))] (rest := []) pd3 rfl rfl rfl rfl rfl (Q 13)) ?_
    rintro T108 _ _ h108 X108 e108 ⟨rfl, N108q, K108, V108⟩
    have zK108 := K108.1
    have N108 := Fr.app NG102 N108q
    rw [o_wbS cs i (by omega)] at V108
    refine yA (fun _ z_ => XS.iinc X108.here hx rfl (Q 14).2 rfl rfl (XS.iinc X108.here hx rfl (Q 15).2 rfl rfl (yT X108 29 8 rfl (Q 16) (by decide) z_))) ?_
    refine yG m 8 #[rv a1, iv ((ofNat i) + (1 : Int32)), iv (ofNat cs.length), rv b101, iv ((ofNat i) + (1 : Int32))] [] ?_
    rw [show ofNat i + (1 : Int32) = ofNat (i + 1) from uD (b := 1) (by omega)]
    have KK109 := yF (yF (Keep.refl h101 [b101]) KL102) K108
    exact ih _ (by omega) _ _ _ (i + 1)  rfl KK109 V108 hlt X108 e108 N108
  · refine yA (fun _ z_ => qG XG102 11 32 rfl (Q 7) rfl (flt c103).2.1 (by decide) (yC XG102 (Q 17) rfl rfl z_)) ?_
    refine yG m 33 #[rv a1, iv (ofNat i), iv (ofNat cs.length), rv b101, iv (ofNat i)] [(.ref b101)] ?_
    have hie : cs.length = i := by
     have q : ¬ i < cs.length := fun q => c103 ((qP (by omega) (by omega)).mpr q)
     omega
    have KK110 := yN (yI (Keep.refl h0 []) K101) KL102
    exact yW XG102 hlk eG102 hret rfl (uA rfl rfl) (Q 18) (by decide) ⟨NG102, b101, _, rfl, KK110, by omega, Vj.lt, (by rw [← o_wbE, hie]; exact (hie ▸ Vj))⟩
theorem d88 : yX jdk_52_method_5_code [(0, .getstatic 44, 3), (3, .ifCond .ne 25, 3), (28, .iload_n 1, 1), (29, .iconst 1, 1), (30, .ishl, 1), (31, .istore_n 1, 1), (32, .aload_n 0, 1), (33, .iload_n 1, 1), (34, .iinc 1 1, 3), (37, .baload, 1), (38, .sipush 255, 3), (41, .iand, 1), (42, .getstatic 59, 3), (45, .ishl, 1), (46, .aload_n 0, 1), (47, .iload_n 1, 1), (48, .baload, 1), (49, .sipush 255, 3), (52, .iand, 1), (53, .getstatic 63, 3), (56, .ishl, 1), (57, .ior, 1), (58, .i2c, 1), (59, .ireturn, 1)] := by decide +kernel
abbrev gcNR : Room := { frames := 0, cells := 0, slots := 0, locals := 0 }
theorem gcN (hw : yQ a0 Z) (a1 : Nat) (k1 : ClassId) (cs : List Int32) (i : Nat) (O0 : Old Z n0 h0) (UT : uB Z) (hi : i < cs.length) (hk : cs.length ≤ 20) (hbd : ∀ c ∈ cs, ¬ c < 0 ∧ ¬ (65535 : Int32) < c) (V1 : Arv Z h0 a1 k1 .byte (ofNat (2 * cs.length)) (StrChars.Road.wideBytes cs) (.int 0)) :
 yZ l Z mN41 jdk_52_method_5_code 2 (some .char) [] gcNR #[(.ref a1), (.int (ofNat i))] h0 (fun v h L => v = some (.int (cs.getD i 0)) ∧ Fr n0 L ∧ h = h0) := by
 refine yK (plainFor_of_name pd0) ?_
 intro p e s m below meth c T0 X0 hx hby hml hZ hown hnm hret hlk e0
 have W := qC hw
 have Q := @yR p c _ _ _ hx hby d88
 have N0 := Fr.nil n0
 have zO := yM O0
 have zo := UT
 obtain ⟨Ua, Uh, Ul⟩ := zo
 refine yP 0 rfl rfl ?_
 refine yG m 0 #[rv a1, iv (ofNat i)] [] ?_
 refine yO (getS2 X0 hx hZ hown (host := "") (Or.inl (W 480)) Via.refl e0 (Ua.ext O0.2) rfl (Q 0).2) ?_
 intro T101 X101 e101
 refine yA (fun _ z_ => qF X101 3 28 rfl (Q 1) rfl ((if0 _ _).trans (feq (by decide)).2) (by decide) (yE X101 (Q 2) rfl (yH X101 (Q 3) (XS.ishl X101.here hx rfl (Q 4).2 rfl z_)))) ?_
 refine yG m 31 #[rv a1, iv (ofNat i)] [(.int ((ofNat i) <<< ((1 : Int32) &&& 31)))] ?_
 rw [o_shl (by omega)]
 refine yA (fun _ z_ => XS.istoreN X101.here hx rfl (Q 5).2 rfl rfl (yC X101 (Q 6) rfl rfl (yE X101 (Q 7) rfl (XS.iinc X101.here hx rfl (Q 8).2 rfl rfl z_)))) ?_
 refine yG m 37 #[rv a1, iv ((ofNat (2 * i)) + (1 : Int32))] [(.int (ofNat (2 * i))), (.ref a1)] ?_
 rw [show ofNat (2 * i) + (1 : Int32) = ofNat (2 * i + 1) from uD (b := 1) (by omega)]
 have zo := V1
 obtain ⟨c102, Ar102, q102, S102, M102, H102, U102⟩ := zo
 have hi102 := inb_of (j := (ofNat (2 * i))) S102 ⟨uK (by omega), (qP (by omega) (by omega)).mpr (by omega)⟩
 refine yA (X101.baloadBytes hx (j := (ofNat (2 * i))) (v := (.int (StrChars.lo8 (cs.getD i 0)))) (by rw [e101]; exact Ar102.1) (State.isArrayOf_alike hZ.alike Ar102.2.1) Ar102.2.2 hi102 (H102.at hi102 (by rw [qU (by omega)]; exact StrChars.Road.wide_lo _ cs i hi)) (g := (mkF m 37 #[rv a1, iv (ofNat (2 * i + 1))] [(.int (ofNat (2 * i))), (.ref a1)])) rfl rfl (Q 9).2) ?_
 refine yA (fun _ z_ => XS.sipush X101.here hx rfl (Q 10).2 (XS.iand X101.here hx rfl (Q 11).2 rfl z_)) ?_
 refine yO (getS2 X101 hx hZ hown (host := "") (Or.inl (W 481)) Via.refl e101 (Uh.ext O0.2) rfl (Q 12).2) ?_
 intro T103 X103 e103
 refine yA (fun _ z_ => XS.ishl X103.here hx rfl (Q 13).2 rfl (yC X103 (Q 14) rfl rfl (yE X103 (Q 15) rfl z_))) ?_
 have zo := V1
 obtain ⟨c104, Ar104, q104, S104, M104, H104, U104⟩ := zo
 have hi104 := inb_of (j := (ofNat (2 * i + 1))) S104 ⟨uK (by omega), (qP (by omega) (by omega)).mpr (by omega)⟩
 refine yA (X103.baloadBytes hx (j := (ofNat (2 * i + 1))) (v := (.int (StrChars.hi8 (cs.getD i 0)))) (by rw [e103]; exact Ar104.1) (State.isArrayOf_alike hZ.alike Ar104.2.1) Ar104.2.2 hi104 (H104.at hi104 (by rw [qU (by omega)]; exact StrChars.Road.wide_hi _ cs i hi)) (g := (mkF m 48 #[rv a1, iv (ofNat (2 * i + 1))] [(.int (ofNat (2 * i + 1))), (.ref a1), (.int (((StrChars.lo8 (cs.getD i 0)) &&& (255 : Int32)) <<< ((0 : Int32) &&& 31)))])) rfl rfl (Q 16).2) ?_
 refine yA (fun _ z_ => XS.sipush X103.here hx rfl (Q 17).2 (XS.iand X103.here hx rfl (Q 18).2 rfl z_)) ?_
 refine yO (getS2 X103 hx hZ hown (host := "") (Or.inl (W 482)) Via.refl e103 (Ul.ext O0.2) rfl (Q 19).2) ?_
 intro T105 X105 e105
 refine yA (fun _ z_ => XS.ishl X105.here hx rfl (Q 20).2 rfl (XS.ior X105.here hx rfl (Q 21).2 rfl (XS.i2c X105.here hx rfl (Q 22).2 rfl z_))) ?_
 refine yG m 59 #[rv a1, iv (ofNat (2 * i + 1))] [(.int (((((StrChars.lo8 (cs.getD i 0)) &&& (255 : Int32)) <<< ((0 : Int32) &&& 31)) ||| (((StrChars.hi8 (cs.getD i 0)) &&& (255 : Int32)) <<< ((8 : Int32) &&& 31))).toUInt32.toUInt16.toUInt32.toInt32))] ?_
 rw [show (((((StrChars.lo8 (cs.getD i 0)) &&& (255 : Int32)) <<< ((0 : Int32) &&& 31)) ||| (((StrChars.hi8 (cs.getD i 0)) &&& (255 : Int32)) <<< ((8 : Int32) &&& 31))).toUInt32.toUInt16.toUInt32.toInt32) = cs.getD i 0 from StrChars.pair_says (o_gin hbd hi).1 (o_gin hbd hi).2]
 exact yW X105 hlk e105 hret (o_rc16 (o_gin hbd hi)) o_iC (Q 23) (by decide) ⟨rfl, N0, rfl⟩
def o_cod (cs : List Int32) (kf : Nat) (N : Int32) (vs : List Value) : Prop := (kf = cs.length ∧ N = ofNat cs.length ∧ vs = (cs.map fun c => Value.int (StrChars.lo8 c))) ∨ (kf < cs.length ∧ N = ofNat (2 * cs.length) ∧ vs = StrChars.Road.wideBytes cs)
theorem o_allD {cs : List Int32} {P : Int32 → Prop} (h : ∀ j, j < cs.length → P (cs.getD j 0)) : ∀ c ∈ cs, P c := fun c hc => by
 obtain ⟨i, hi, e⟩ := List.mem_iff_getElem.mp hc
 have := h i hi
 rw [List.getD_eq_getElem?_getD, List.getElem?_eq_getElem hi] at this
 rw [← e]; exact this
theorem o_fk (cs : List Int32) : ∃ kf : Nat, kf ≤ cs.length ∧ (∀ j, j < kf → ¬ (255 : Int32) < cs.getD j 0) ∧ (kf < cs.length → (255 : Int32) < cs.getD kf 0) := by
 induction cs with
 | nil => exact ⟨0, Nat.le_refl _, fun j hj => absurd hj (Nat.not_lt_zero _), fun h => absurd h (Nat.not_lt_zero _)⟩
 | cons c cs ih =>
  by_cases q : (255 : Int32) < c
  · exact ⟨0, Nat.zero_le _, fun j hj => absurd hj (Nat.not_lt_zero _), fun _ => q⟩
  · obtain ⟨k, h1, h2, h3⟩ := ih
    refine ⟨k + 1, Nat.succ_le_succ h1, fun j hj => ?_, fun h => h3 (Nat.lt_of_succ_lt_succ h)⟩
    cases j with
    | zero => exact q
    | succ j => exact h2 j (Nat.lt_of_succ_lt_succ hj)
theorem o_cd0N : ∀ k : Fin 21, ((((ofNat k.val - ofNat k.val).toUInt32 >>> ((31 : Int32) &&& 31).toUInt32).toInt32).toInt8.toInt32) = 0 := by decide +kernel
theorem d5 : yX jdk_52_method_16_code [(0, .iload_n 2, 1), (1, .newarray .byte, 2), (3, .astore_n 3, 1), (4, .aload_n 0, 1), (5, .iload_n 1, 1), (6, .aload_n 3, 1), (7, .iconst 0, 1), (8, .iload_n 2, 1), (9, .invokestatic 115, 3), (12, .istore 4, 2), (14, .iload 4, 2), (16, .iload_n 2, 1), (17, .if_icmp .eq 40, 3), (57, .aload_n 3, 1), (58, .areturn, 1), (20, .aload_n 0, 1), (21, .iload_n 1, 1), (22, .iload_n 2, 1), (23, .invokestatic 119, 3), (26, .astore 5, 2), (28, .aload 5, 2), (30, .iload 4, 2), (32, .invokestatic 71, 3), (35, .sipush 255, 3), (38, .if_icmp .gt 16, 3), (54, .aload 5, 2), (56, .areturn, 1)] := by decide +kernel
theorem pd4 : parseMethodDescriptor "([CI[BII)I" = some ⟨[(.array .char), .int, (.array .byte), .int, .int], some .int⟩ := by decide +kernel
theorem pd5 : parseMethodDescriptor "([CII)[B" = some ⟨[(.array .char), .int, .int], some (.array .byte)⟩ := by decide +kernel
theorem pd6 : parseMethodDescriptor "([BI)C" = some ⟨[(.array .byte), .int], some .char⟩ := by decide +kernel
abbrev ctNR : Room := { frames := 3, cells := 2, slots := 60, locals := 40 }
theorem ctN (hw : yQ a0 Z) (a1 : Nat) (k1 : ClassId) (cs : List Int32) (kf : Nat) (O0 : Old Z n0 h0) (UT : uB Z) (hbd : ∀ c ∈ cs, ¬ c < 0 ∧ ¬ (65535 : Int32) < c) (hf : kf ≤ cs.length) (hf1 : ∀ j, j < kf → ¬ (255 : Int32) < cs.getD j 0) (hf2 : kf < cs.length → (255 : Int32) < cs.getD kf 0) (hk : cs.length ≤ 20) (V1 : Arv Z h0 a1 k1 .char (ofNat cs.length) (cs.map Value.int) (.int 0)) :
 yZ l Z (⟨sN11, "compress", "([CII)[B"⟩ : MethodName) jdk_52_method_16_code 6 (some (.array .byte)) [] ctNR #[(.ref a1), (.int (0 : Int32)), (.int (ofNat cs.length))] h0 (fun v h L => Fr n0 L ∧ ∃ (b : Nat) (kb : ClassId) (N : Int32) (vs : List Value), v = some (.ref b) ∧ Keep h0 h [] ∧ h0.size ≤ b ∧ b < h.size ∧ Arv Z h b kb .byte N vs (.int 0) ∧ o_cod cs kf N vs) := by
 refine yK (plainFor_of_name pd0) ?_
 intro p e s m below meth c T0 X0 hx hby hml hZ hown hnm hret hlk e0
 have hM := @qK _ _ hml
 have W := qC hw
 have Q := @yR p c _ _ _ hx hby d5
 have N0 := Fr.nil n0
 have zO := yM O0
 have la1 : a1 < h0.size := V1.lt
 refine yP 3 rfl rfl ?_
 refine yG m 0 #[rv a1, iv (0 : Int32), iv (ofNat cs.length), .unset, .unset, .unset] [] ?_
 refine yA (fun _ z_ => yE X0 (Q 0) rfl z_) ?_
 have zo := newP X0 hx hZ (aty := .byte) (W 26) e0 (g := (mkF m 1 #[rv a1, iv (0 : Int32), iv (ofNat cs.length), .unset, .unset, .unset] [(.int (ofNat cs.length))])) rfl (Q 1).2 rfl (uK (by omega)) (cap := 20) (by rw [qU (by omega)]; omega) (by decide) (by decide) (by decide)
 obtain ⟨T101, h101, k101, X101, e101, E101, A101, st101⟩ := zo
 have zo : ∃ z, z = h0.size := ⟨_, rfl⟩
 obtain ⟨b101, g101⟩ := zo
 rw [← g101] at A101 st101
 have K101 : Keep h0 h101 [] := (Keep.refl _ _).ext E101
 have l101 : b101 < h101.size := A101.lt
 refine yA st101 ?_
 have zK101 := K101.1
 have V101 := Arv.new A101 (uK (by omega))
 have V101p : Arv Z h101 b101 _ .byte (ofNat cs.length) (List.replicate cs.length (.int 0)) (.int 0) := V101.pad (pad_rep [] (.int (0 : Int32)) cs.length)
 refine yA (fun _ z_ => XS.astoreN X101.here hx rfl (Q 2).2 rfl rfl rfl (yC X101 (Q 3) rfl rfl (yE X101 (Q 4) rfl (yC X101 (Q 5) rfl rfl (yH X101 (Q 6) (yE X101 (Q 7) rfl z_)))))) ?_
 have O102 : Old Z n0 h101 := O0.keep K101 all0
 have f103 := (V1.keep K101 nin0)
 refine yL (qD X101 hZ (y := (⟨sN11, "compress", "([CI[BII)I"⟩ : MethodName)) hown (W 27) (W 28) (W 24) (W 29) 0 (cmN hw a1 b101 _ _ cs kf _ O102 hk hf hf1 hf2 f103 (by omega) V101p (by simp) (by omega)) e101 (by decide) rfl (hM rfl) [(.ref a1), (.int (0 : Int32)), (.ref b101), (.int (0 : Int32)), (.int (ofNat cs.length))] (rest := []) pd4 rfl rfl rfl rfl rfl (Q 8)) ?_
 rintro T104 _ _ h104 X104 e104 ⟨rfl, N104q, K104, vc104, V104, vl104, vw104⟩
 have zK104 := K104.1
 have N104 := Fr.app N0 N104q
 refine yA (fun _ z_ => qM X104 (Q 9) rfl rfl (yJ X104 (Q 10) rfl (yE X104 (Q 11) rfl z_))) ?_
 by_cases c105 : (ofNat kf) = (ofNat cs.length)
 · refine yA (fun _ z_ => qG X104 17 57 rfl (Q 12) rfl (teq c105).1 (by decide) (yC X104 (Q 13) rfl rfl z_)) ?_
   refine yG m 58 #[rv a1, iv (0 : Int32), iv (ofNat cs.length), rv b101, iv (ofNat kf), .unset] [(.ref b101)] ?_
   have KK106 := yN (yI (Keep.refl h0 []) K101) K104
   have hkl : kf = cs.length := (o_nin (by omega) (by omega)).mp c105
   rw [hkl, List.take_length] at vw104
   suffices hve : vc104 = (cs.map fun c => Value.int (StrChars.lo8 c)) by
    exact yW X104 hlk e104 hret rfl (uA rfl rfl) (Q 14) (by decide) ⟨N104, b101, _, _, _, rfl, KK106, by omega, V104.lt, V104, Or.inl ⟨hkl, rfl, hve⟩⟩
   have q : vc104.take cs.length = _ := vw104
   rw [← vl104, List.take_length] at q
   exact q
 · refine yA (fun _ z_ => qH X104 (Q 12) rfl (feq c105).1 z_) ?_
   have hkn : ¬ kf = cs.length := fun q => c105 (by rw [q])
   have hkl : kf < cs.length := by omega
   refine yA (fun _ z_ => yC X104 (Q 15) rfl rfl (yE X104 (Q 16) rfl (yE X104 (Q 17) rfl z_))) ?_
   have O107 : Old Z n0 h104 := O102.keep K104 (allS (by omega) all0)
   have f108 := (f103.keep K104 (yB (by omega) nin0))
   refine yL (qD X104 hZ (y := (⟨sN11, "toBytes", "([CII)[B"⟩ : MethodName)) hown (W 467) (W 468) (W 24) (W 469) 0 (tbN hw a1 _ cs O107 UT hk f108) e104 (by decide) rfl (hM rfl) [(.ref a1), (.int (0 : Int32)), (.int (ofNat cs.length))] (rest := []) pd5 rfl rfl rfl rfl rfl (Q 18)) ?_
   rintro T109 _ _ h109 X109 e109 ⟨N109q, b109, k109, rfl, K109, zb109, zc109, V109⟩
   have zK109 := K109.1
   have N109 := Fr.app N104 N109q
   refine yA (fun _ z_ => XS.astore X109.here hx rfl (Q 19).2 rfl rfl rfl (qN X109 (Q 20) rfl rfl (yJ X109 (Q 21) rfl z_))) ?_
   have O110 : Old Z n0 h109 := O107.keep K109 all0
   refine yL (qD X109 hZ (y := mN41) hown (W 483) (W 484) (W 24) (W 485) 0 (gcN hw b109 _ cs kf O110 UT hkl hk hbd V109) e109 (by decide) rfl (hM rfl) [(.ref b109), (.int (ofNat kf))] (rest := []) pd6 rfl rfl rfl rfl rfl (Q 22)) ?_
   rintro T111 _ _ h111 X111 e111 ⟨rfl, N111q, hq111⟩
   replace e111 := e111.trans hq111
   have N111 := Fr.app N109 N111q
   refine yA (fun _ z_ => XS.sipush X111.here hx rfl (Q 23).2 (qG X111 38 54 rfl (Q 24) rfl (tlt (hf2 hkl)).2.2.1 (by decide) (qN X111 (Q 25) rfl rfl z_))) ?_
   have KK112 := yI (yN (yI (Keep.refl h0 []) K101) K104) K109
   exact yW X111 hlk e111 hret rfl (uA rfl rfl) (Q 26) (by decide) ⟨N111, b109, _, _, _, rfl, KK112, by omega, V109.lt, V109, Or.inr ⟨hkl, rfl, rfl⟩⟩
theorem d7 : yX jdk_52_method_15_code [(0, .iload_n 1, 1), (1, .aload_n 0, 1), (2, .arraylength, 1), (3, .isub, 1), (4, .bipush 31, 2), (6, .iushr, 1), (7, .i2b, 1), (8, .ireturn, 1)] := by decide +kernel
abbrev cdN1R : Room := { frames := 0, cells := 0, slots := 0, locals := 0 }
theorem cdN1 (hw : yQ a0 Z) (a1 : Nat) (k1 : ClassId) (i : Nat) (vs : List Value) (O0 : Old Z n0 h0) (hi : 0 < i) (hi2 : i ≤ 20) (V1 : Arv Z h0 a1 k1 .byte (ofNat (2 * i)) vs (.int 0)) :
 yZ l Z mN26 jdk_52_method_15_code 2 (some .byte) [] cdN1R #[(.ref a1), (.int (ofNat i))] h0 (fun v h L => v = some (.int 1) ∧ Fr n0 L ∧ h = h0) := by
 refine yK (plainFor_of_name pd0) ?_
 intro p e s m below meth c T0 X0 hx hby hml hZ hown hnm hret hlk e0
 have W := qC hw
 have Q := @yR p c _ _ _ hx hby d7
 have N0 := Fr.nil n0
 have zO := yM O0
 refine yP 0 rfl rfl ?_
 refine yG m 0 #[rv a1, iv (ofNat i)] [] ?_
 refine yA (fun _ z_ => yE X0 (Q 0) rfl (yC X0 (Q 1) rfl rfl z_)) ?_
 have zo := V1
 obtain ⟨c101, Ar101, q101, S101, M101, H101, U101⟩ := zo
 refine yA (X0.arraylength hx (by rw [e0]; exact Ar101.1) (State.isArrayOf_alike hZ.alike Ar101.2.1) (g := (mkF m 2 #[rv a1, iv (ofNat i)] [(.ref a1), (.int (ofNat i))])) rfl rfl (Q 2).2) ?_
 rw [len_of S101 M101]
 refine yA (fun _ z_ => XS.isub X0.here hx rfl (Q 3).2 rfl (yY X0 (Q 4) (XS.iushr X0.here hx rfl (Q 5).2 rfl (XS.i2b X0.here hx rfl (Q 6).2 rfl z_)))) ?_
 refine yG m 8 #[rv a1, iv (ofNat i)] [(.int (((((ofNat i) - (ofNat (2 * i))).toUInt32 >>> ((31 : Int32) &&& 31).toUInt32).toInt32).toInt8.toInt32))] ?_
 rw [show (((((ofNat i) - (ofNat (2 * i))).toUInt32 >>> ((31 : Int32) &&& 31).toUInt32).toInt32).toInt8.toInt32) = (1 : Int32) from (o_cdN ⟨i, by omega⟩).resolve_left (by show ¬ i = 0; omega)]
 exact yW X0 hlk e0 hret (by decide) o_iY (Q 7) (by decide) ⟨rfl, N0, rfl⟩
abbrev cdN0R : Room := { frames := 0, cells := 0, slots := 0, locals := 0 }
theorem cdN0 (hw : yQ a0 Z) (a1 : Nat) (k1 : ClassId) (i : Nat) (vs : List Value) (O0 : Old Z n0 h0) (hi : 0 < i) (hi2 : i ≤ 20) (V1 : Arv Z h0 a1 k1 .byte (ofNat i) vs (.int 0)) :
 yZ l Z mN26 jdk_52_method_15_code 2 (some .byte) [] cdN0R #[(.ref a1), (.int (ofNat i))] h0 (fun v h L => v = some (.int 0) ∧ Fr n0 L ∧ h = h0) := by
 refine yK (plainFor_of_name pd0) ?_
 intro p e s m below meth c T0 X0 hx hby hml hZ hown hnm hret hlk e0
 have W := qC hw
 have Q := @yR p c _ _ _ hx hby d7
 have N0 := Fr.nil n0
 have zO := yM O0
 refine yP 0 rfl rfl ?_
 refine yG m 0 #[rv a1, iv (ofNat i)] [] ?_
 refine yA (fun _ z_ => yE X0 (Q 0) rfl (yC X0 (Q 1) rfl rfl z_)) ?_
 have zo := V1
 obtain ⟨c101, Ar101, q101, S101, M101, H101, U101⟩ := zo
 refine yA (X0.arraylength hx (by rw [e0]; exact Ar101.1) (State.isArrayOf_alike hZ.alike Ar101.2.1) (g := (mkF m 2 #[rv a1, iv (ofNat i)] [(.ref a1), (.int (ofNat i))])) rfl rfl (Q 2).2) ?_
 rw [len_of S101 M101]
 refine yA (fun _ z_ => XS.isub X0.here hx rfl (Q 3).2 rfl (yY X0 (Q 4) (XS.iushr X0.here hx rfl (Q 5).2 rfl (XS.i2b X0.here hx rfl (Q 6).2 rfl z_)))) ?_
 refine yG m 8 #[rv a1, iv (ofNat i)] [(.int (((((ofNat i) - (ofNat i)).toUInt32 >>> ((31 : Int32) &&& 31).toUInt32).toInt32).toInt8.toInt32))] ?_
 rw [show (((((ofNat i) - (ofNat i)).toUInt32 >>> ((31 : Int32) &&& 31).toUInt32).toInt32).toInt8.toInt32) = (0 : Int32) from o_cd0N ⟨i, by omega⟩]
 exact yW X0 hlk e0 hret (by decide) o_iY (Q 7) (by decide) ⟨rfl, N0, rfl⟩
theorem d3 : yX jdk_42_method_149_code [(0, .aload_n 0, 1), (1, .invokespecial 1, 3), (4, .iload_n 3, 1), (5, .ifCond .ne 22, 3), (27, .getstatic 38, 3), (30, .ifCond .eq 28, 3), (33, .aload_n 1, 1), (34, .iload_n 2, 1), (35, .iload_n 3, 1), (36, .invokestatic 177, 3), (39, .astore 5, 2), (41, .aload_n 0, 1), (42, .aload 5, 2), (44, .iload_n 3, 1), (45, .invokestatic 47, 3), (48, .putfield 15, 3), (51, .aload_n 0, 1), (52, .aload 5, 2), (54, .putfield 9, 3), (57, .return_, 1)] := by decide +kernel
theorem pd7 : parseMethodDescriptor "([BI)B" = some ⟨[(.array .byte), .int], some .byte⟩ := by decide +kernel
theorem pd8 : plainName sN2 = true := by first | (simp [plainName, overriddenIn]; done) | decide +kernel
abbrev ivNR : Room := { frames := 4, cells := 2, slots := 60, locals := 57 }
theorem ivN (hw : yQ a0 Z) (a0_ a1 : Nat) (k1 : ClassId) (u1 u2 : Value) (cs : List Int32) (kf : Nat) (O0 : Old Z n0 h0) (CS : uE Z) (UT : uB Z) (hp : 0 < cs.length) (hbd : ∀ c ∈ cs, ¬ c < 0 ∧ ¬ (65535 : Int32) < c) (hf : kf ≤ cs.length) (hf1 : ∀ j, j < kf → ¬ (255 : Int32) < cs.getD j 0) (hf2 : kf < cs.length → (255 : Int32) < cs.getD kf 0) (E1 : Exa Z h0 a0_ sN2) (g1 : n0 ≤ a0_) (F1 : Fld Z h0 a0_ sN2 "value" "[B" u1) (F2 : Fld Z h0 a0_ sN2 "coder" "B" u2) (hk : cs.length ≤ 20) (V1 : Arv Z h0 a1 k1 .char (ofNat cs.length) (cs.map Value.int) (.int 0)) :
 yZ l Z (⟨sN2, "<init>", "([CIILjava/lang/Void;)V"⟩ : MethodName) jdk_42_method_149_code 6 none [] ivNR #[(.ref a0_), (.ref a1), (.int (0 : Int32)), (.int (ofNat cs.length)), .null] h0 (fun v h L => v = none ∧ Fr n0 L ∧ Keep h0 h [a0_] ∧ ∃ t : Nat, h0.size ≤ t ∧ yU Z h a0_ t cs) := by
 refine yK (plainFor_of_name pd8) ?_
 intro p e s m below meth c T0 X0 hx hby hml hZ hown hnm hret hlk e0
 have hM := @qK _ _ hml
 have W := qC hw
 have Q := @yR p c _ _ _ hx hby d3
 have N0 := Fr.nil n0
 have zO := yM O0
 have zo := CS
 obtain ⟨zc, Sc, hzc⟩ := zo
 have la1 : a1 < h0.size := V1.lt
 have la0 : a0_ < h0.size := E1.lt
 refine yP 1 rfl rfl ?_
 refine yG m 0 #[rv a0_, rv a1, iv (0 : Int32), iv (ofNat cs.length), .val .null, .unset] [] ?_
 refine yA (fun _ z_ => yC X0 (Q 0) rfl rfl z_) ?_
 refine yO (initO X0 hx hZ hown (W 18) (W 19) (W 20) e0 rfl (hM rfl) rfl (Q 1).2 (by decide) (W := 0) (qE rfl rfl) (by decide)) ?_
 intro T101 X101 e101
 refine yA (fun _ z_ => yE X101 (Q 2) rfl (qF X101 5 27 rfl (Q 3) rfl ((if0 _ _).trans (feq (fun q => absurd ((o_nin (b := 0) (by omega) (by omega)).mp q) (by omega))).2) (by decide) z_)) ?_
 refine yO (getS2 X101 hx hZ hown (host := "") (Or.inl (W 21)) Via.refl e101 (Sc.ext O0.2) rfl (Q 4).2) ?_
 intro T102 X102 e102
 refine yA (fun _ z_ => qA X102 (Q 5) rfl ((if0 _ _).trans (feq hzc).1) (yC X102 (Q 6) rfl rfl (yE X102 (Q 7) rfl (yE X102 (Q 8) rfl z_)))) ?_
 refine yL (qD X102 hZ (y := (⟨sN11, "compress", "([CII)[B"⟩ : MethodName)) hown (W 22) (W 23) (W 24) (W 25) 0 (ctN hw a1 _ cs kf O0 UT hbd hf hf1 hf2 hk V1) e102 (by decide) rfl (hM rfl) [(.ref a1), (.int (0 : Int32)), (.int (ofNat cs.length))] (rest := []) pd5 rfl rfl rfl rfl rfl (Q 9)) ?_
 rintro T103 _ _ h103 X103 e103 ⟨N103q, b103, k103, Nn103, vn103, rfl, K103, zb103, zc103, V103, co103⟩
 have zK103 := K103.1
 have N103 := Fr.app N0 N103q
 rcases co103 with ⟨hkl, rfl, rfl⟩ | ⟨hkl, rfl, rfl⟩
 · refine yG m 39 #[rv a0_, rv a1, iv (0 : Int32), iv (ofNat cs.length), .val .null, .unset] [(.ref b103)] ?_
   refine yA (fun _ z_ => XS.astore X103.here hx rfl (Q 10).2 rfl rfl rfl (yC X103 (Q 11) rfl rfl (qN X103 (Q 12) rfl rfl (yE X103 (Q 13) rfl z_)))) ?_
   have O104 : Old Z n0 h103 := O0.keep K103 all0
   refine yL (qD X103 hZ (y := mN26) hown (W 30) (W 31) (W 24) (W 32) 1 (cdN0 hw b103 _ cs.length _ O104 (by omega) hk V103) e103 (by decide) rfl (hM rfl) [(.ref b103), (.int (ofNat cs.length))] (rest := [(.ref a0_)]) pd7 rfl rfl rfl rfl rfl (Q 14)) ?_
   rintro T105 _ _ h105 X105 e105 ⟨rfl, N105q, hq105⟩
   replace e105 := e105.trans hq105
   have N105 := Fr.app N103 N105q
   have f106 := (F2.keep K103 nin0)
   have f107 := (E1.keep K103)
   refine qL (putFN X105 hx hZ hown (W 33) Via.refl e105 f106 f107 (Or.inr ⟨(W 34), rfl, hnm⟩) (W 9) (ty := .byte) (v' := (.int (0 : Int32))) (by decide) (by decide) (by decide) rfl rfl (Q 15).2) ?_
   intro T108 h108 X108 e108 W108
   have F108 := f106.same W108
   have K108 := Keep.of_wr W108
   have N108 := Fr.snoc X108 N105 (by omega : n0 ≤ a0_)
   have zK108 := K108.1
   refine yA (fun _ z_ => yC X108 (Q 16) rfl rfl (qN X108 (Q 17) rfl rfl z_)) ?_
   have KK109 := yF (yI (Keep.refl h0 [a0_]) K103) K108
   have f110 := ((F1.keep K103 nin0).other W108 (yS (Or.inr (W 36)) (Or.inr (W 34)) (by decide)))
   have f111 := (f107.keep K108)
   refine qL (putF X108 hx hZ hown (host := "") (Or.inl (W 35)) Via.refl e108 f110 f111 (Or.inr ⟨(W 36), rfl, hnm⟩) (W 9) (ty := (.array .byte)) (by decide) rfl rfl rfl rfl (Q 18).2) ?_
   intro T112 h112 X112 e112 W112
   have F112 := f110.same W112
   have K112 := Keep.of_wr W112
   have N112 := Fr.snoc X112 N108 (by omega : n0 ≤ a0_)
   have zK112 := K112.1
   have KK113 := yF (yF (yI (Keep.refl h0 [a0_]) K103) K108) K112
   have f114 := (f111.keep K112)
   have f115 := (F108.other W112 (yS (Or.inr (W 34)) (Or.inr (W 36)) (by decide)))
   have KK116 := yF (yF (Keep.refl h103 [a0_]) K108) K112
   have f117 := (V103.keep KK116 (yB (by omega) nin0))
   exact uG X112 hlk e112 hret (Q 19) (by decide) ⟨rfl, N112, KK113, b103, by omega, f114, _, 0, _, _, F112, f115, f117, Or.inl ⟨rfl, rfl, rfl, o_allD (hkl ▸ hf1)⟩, hbd, by omega⟩
 · refine yG m 39 #[rv a0_, rv a1, iv (0 : Int32), iv (ofNat cs.length), .val .null, .unset] [(.ref b103)] ?_
   refine yA (fun _ z_ => XS.astore X103.here hx rfl (Q 10).2 rfl rfl rfl (yC X103 (Q 11) rfl rfl (qN X103 (Q 12) rfl rfl (yE X103 (Q 13) rfl z_)))) ?_
   have O118 : Old Z n0 h103 := O0.keep K103 all0
   refine yL (qD X103 hZ (y := mN26) hown (W 30) (W 31) (W 24) (W 32) 1 (cdN1 hw b103 _ cs.length _ O118 (by omega) hk V103) e103 (by decide) rfl (hM rfl) [(.ref b103), (.int (ofNat cs.length))] (rest := [(.ref a0_)]) pd7 rfl rfl rfl rfl rfl (Q 14)) ?_
   rintro T119 _ _ h119 X119 e119 ⟨rfl, N119q, hq119⟩
   replace e119 := e119.trans hq119
   have N119 := Fr.app N103 N119q
   have f120 := (F2.keep K103 nin0)
   have f121 := (E1.keep K103)
   refine qL (putFN X119 hx hZ hown (W 33) Via.refl e119 f120 f121 (Or.inr ⟨(W 34), rfl, hnm⟩) (W 9) (ty := .byte) (v' := (.int (1 : Int32))) (by decide) (by decide) (by decide) rfl rfl (Q 15).2) ?_
   intro T122 h122 X122 e122 W122
   have F122 := f120.same W122
   have K122 := Keep.of_wr W122
   have N122 := Fr.snoc X122 N119 (by omega : n0 ≤ a0_)
   have zK122 := K122.1
   refine yA (fun _ z_ => yC X122 (Q 16) rfl rfl (qN X122 (Q 17) rfl rfl z_)) ?_
   have KK123 := yF (yI (Keep.refl h0 [a0_]) K103) K122
   have f124 := ((F1.keep K103 nin0).other W122 (yS (Or.inr (W 36)) (Or.inr (W 34)) (by decide)))
   have f125 := (f121.keep K122)
   refine qL (putF X122 hx hZ hown (host := "") (Or.inl (W 35)) Via.refl e122 f124 f125 (Or.inr ⟨(W 36), rfl, hnm⟩) (W 9) (ty := (.array .byte)) (by decide) rfl rfl rfl rfl (Q 18).2) ?_
   intro T126 h126 X126 e126 W126
   have F126 := f124.same W126
   have K126 := Keep.of_wr W126
   have N126 := Fr.snoc X126 N122 (by omega : n0 ≤ a0_)
   have zK126 := K126.1
   have KK127 := yF (yF (yI (Keep.refl h0 [a0_]) K103) K122) K126
   have f128 := (f125.keep K126)
   have f129 := (F122.other W126 (yS (Or.inr (W 34)) (Or.inr (W 36)) (by decide)))
   have KK130 := yF (yF (Keep.refl h103 [a0_]) K122) K126
   have f131 := (V103.keep KK130 (yB (by omega) nin0))
   exact uG X126 hlk e126 hret (Q 19) (by decide) ⟨rfl, N126, KK127, b103, by omega, f128, _, 1, _, _, F126, f129, f131, Or.inr ⟨rfl, rfl, rfl, cs.getD kf 0, o_gin (Q := fun c => c ∈ cs) (fun _ z => z) hkl, hf2 hkl⟩, hbd, by omega⟩
theorem d2 : yX jdk_42_method_3_code [(0, .aload_n 0, 1), (1, .aload_n 1, 1), (2, .iconst 0, 1), (3, .aload_n 1, 1), (4, .arraylength, 1), (5, .aconst_null, 1), (6, .invokespecial 27, 3), (9, .return_, 1)] := by decide +kernel
theorem pd9 : parseMethodDescriptor "([CIILjava/lang/Void;)V" = some ⟨[(.array .char), .int, .int, (.object "java/lang/Void")], none⟩ := by decide +kernel
abbrev iuNR : Room := { frames := 5, cells := 2, slots := 60, locals := 74 }
theorem iuN (hw : yQ a0 Z) (a0_ a1 : Nat) (k1 : ClassId) (u1 u2 : Value) (cs : List Int32) (kf : Nat) (O0 : Old Z n0 h0) (CS : uE Z) (UT : uB Z) (hp : 0 < cs.length) (hbd : ∀ c ∈ cs, ¬ c < 0 ∧ ¬ (65535 : Int32) < c) (hf : kf ≤ cs.length) (hf1 : ∀ j, j < kf → ¬ (255 : Int32) < cs.getD j 0) (hf2 : kf < cs.length → (255 : Int32) < cs.getD kf 0) (E1 : Exa Z h0 a0_ sN2) (g1 : n0 ≤ a0_) (F1 : Fld Z h0 a0_ sN2 "value" "[B" u1) (F2 : Fld Z h0 a0_ sN2 "coder" "B" u2) (hk : cs.length ≤ 20) (V1 : Arv Z h0 a1 k1 .char (ofNat cs.length) (cs.map Value.int) (.int 0)) :
 yZ l Z mN19 jdk_42_method_3_code 2 none [] iuNR #[(.ref a0_), (.ref a1)] h0 (fun v h L => v = none ∧ Fr n0 L ∧ Keep h0 h [a0_] ∧ ∃ t : Nat, h0.size ≤ t ∧ yU Z h a0_ t cs) := by
 refine yK (plainFor_of_name pd8) ?_
 intro p e s m below meth c T0 X0 hx hby hml hZ hown hnm hret hlk e0
 have hM := @qK _ _ hml
 have W := qC hw
 have Q := @yR p c _ _ _ hx hby d2
 have N0 := Fr.nil n0
 have zO := yM O0
 refine yP 0 rfl rfl ?_
 refine yG m 0 #[rv a0_, rv a1] [] ?_
 refine yA (fun _ z_ => yC X0 (Q 0) rfl rfl (yC X0 (Q 1) rfl rfl (yH X0 (Q 2) (yC X0 (Q 3) rfl rfl z_)))) ?_
 have zo := V1
 obtain ⟨c101, Ar101, q101, S101, M101, H101, U101⟩ := zo
 refine yA (X0.arraylength hx (by rw [e0]; exact Ar101.1) (State.isArrayOf_alike hZ.alike Ar101.2.1) (g := (mkF m 4 #[rv a0_, rv a1] [(.ref a1), (.int (0 : Int32)), (.ref a1), (.ref a0_)])) rfl rfl (Q 4).2) ?_
 rw [len_of S101 M101]
 refine yA (fun _ z_ => XS.aconstNull X0.here hx rfl (Q 5).2 z_) ?_
 refine yL (o_cI X0 hZ (y := (⟨sN2, "<init>", "([CIILjava/lang/Void;)V"⟩ : MethodName)) rfl hown (W 14) (W 15) (W 17) (W 10) 0 (ivN hw a0_ a1 _ _ _ cs kf O0 CS UT hp hbd hf hf1 hf2 E1 (by omega) F1 F2 hk V1) e0 (by decide) rfl (hM rfl) (a := a0_) [(.ref a1), (.int (0 : Int32)), (.int (ofNat cs.length)), .null] (rest := []) pd9 rfl rfl rfl rfl rfl (Q 6)) ?_
 rintro T102 _ _ h102 X102 e102 ⟨rfl, N102q, K102, tt102, zt102, St102⟩
 have zK102 := K102.1
 have N102 := Fr.app N0 N102q
 have lst102 := St102.lt
 exact uG X102 hlk e102 hret (Q 7) (by decide) ⟨rfl, N102, K102, tt102, by omega, St102⟩
def uQ (Z : State) : Prop := ∃ G : Value, Sta Z Z.heap sN17 "SIOOBE_FORMATTER" "Ljava/util/function/BiFunction;" G ∧ G.isRef = true
theorem d14 : yX jdk_41_method_11_code [(0, .iload_n 0, 1), (1, .ifCond .lt 8, 3), (4, .iload_n 0, 1), (5, .iload_n 1, 1), (6, .if_icmp .lt 10, 3), (16, .iload_n 0, 1), (17, .ireturn, 1)] := by decide +kernel
theorem pd10 : plainName sN17 = true := by first | (simp [plainName, overriddenIn]; done) | decide +kernel
theorem ef_ckP (m : MethodId) (x0 : Int32) (x1 : Int32) (x2 : Value) (hx2 : x2.isRef = true) : entryFrame m #[(.int x0), (.int x1), x2] 3 = mkF m 0 #[iv x0, iv x1, .val x2] [] := by rcases ref_cases hx2 with rfl | ⟨_, rfl⟩ <;> (first | (simp [entryFrame, mkF, argsToLocals, Value.category]; done) | rfl)
abbrev ckPR : Room := { frames := 0, cells := 0, slots := 0, locals := 0 }
theorem ckP (hw : yQ a0 Z) (p1 p2 : Int32) (G : Value) (O0 : Old Z n0 h0) (hG : G.isRef = true) (h1 : ¬ p1 < 0) (h2 : p1 < p2) :
 yZ l Z (⟨sN17, "checkIndex", "(IILjava/util/function/BiFunction;)I"⟩ : MethodName) jdk_41_method_11_code 3 (some .int) [] ckPR #[(.int p1), (.int p2), G] h0 (fun v h L => v = some (.int p1) ∧ Fr n0 L ∧ h = h0) := by
 refine yK (plainFor_of_name pd10) ?_
 intro p e s m below meth c T0 X0 hx hby hml hZ hown hnm hret hlk e0
 have W := qC hw
 have Q := @yR p c _ _ _ hx hby d14
 have N0 := Fr.nil n0
 have zO := yM O0
 refine yA (fun _ z_ => castTop (ef_ckP m p1 p2 G hG) (yE X0 (Q 0) rfl (qA X0 (Q 1) rfl ((if0 _ _).trans (flt h1).1) (yE X0 (Q 2) rfl (yE X0 (Q 3) rfl (qG X0 6 16 rfl (Q 4) rfl (tlt h2).1 (by decide) z_)))))) ?_
 refine yA (fun _ z_ => yE X0 (Q 5) rfl z_) ?_
 exact yW X0 hlk e0 hret rfl o_iI (Q 6) (by decide) ⟨rfl, N0, rfl⟩
theorem d13 : yX jdk_42_method_155_code [(0, .iload_n 0, 1), (1, .iload_n 1, 1), (2, .getstatic 1053, 3), (5, .invokestatic 1059, 3), (8, .pop, 1), (9, .return_, 1)] := by decide +kernel
theorem pd11 : parseMethodDescriptor "(IILjava/util/function/BiFunction;)I" = some ⟨[.int, .int, (.object "java/util/function/BiFunction")], some .int⟩ := by decide +kernel
abbrev ckSR : Room := { frames := 1, cells := 0, slots := 0, locals := 14 }
theorem ckS (hw : yQ a0 Z) (p1 p2 : Int32) (O0 : Old Z n0 h0) (FM : uQ Z) (h1 : ¬ p1 < 0) (h2 : p1 < p2) :
 yZ l Z mN42 jdk_42_method_155_code 2 none [] ckSR #[(.int p1), (.int p2)] h0 (fun v h L => v = none ∧ Fr n0 L ∧ h = h0) := by
 refine yK (plainFor_of_name pd8) ?_
 intro p e s m below meth c T0 X0 hx hby hml hZ hown hnm hret hlk e0
 have hM := @qK _ _ hml
 have W := qC hw
 have Q := @yR p c _ _ _ hx hby d13
 have N0 := Fr.nil n0
 have zO := yM O0
 have zo := FM
 obtain ⟨G, Sg, hG⟩ := zo
 refine yP 0 rfl rfl ?_
 refine yG m 0 #[iv p1, iv p2] [] ?_
 refine yA (fun _ z_ => yE X0 (Q 0) rfl (yE X0 (Q 1) rfl z_)) ?_
 refine yO (getS2 X0 hx hZ hown (host := "") (Or.inl (W 68)) Via.refl e0 (Sg.ext O0.2) rfl (Q 2).2) ?_
 intro T101 X101 e101
 refine yG m 5 #[iv p1, iv p2] [G, (.int p2), (.int p1)] ?_
 refine yL (qD X101 hZ (y := (⟨sN17, "checkIndex", "(IILjava/util/function/BiFunction;)I"⟩ : MethodName)) hown (W 70) (W 71) (W 69) (W 72) 0 (ckP hw p1 p2 G O0 hG h1 h2) e101 (by decide) rfl (hM rfl) [(.int p1), (.int p2), G] (rest := []) pd11 rfl rfl rfl rfl rfl (Q 3)) ?_
 rintro T102 _ _ h102 X102 e102 ⟨rfl, N102q, hq102⟩
 replace e102 := e102.trans hq102
 have N102 := Fr.app N0 N102q
 refine yA (fun _ z_ => XS.pop X102.here hx rfl (Q 4).2 rfl rfl z_) ?_
 exact uG X102 hlk e102 hret (Q 5) (by decide) ⟨rfl, N102, rfl⟩
theorem d11 : yX jdk_42_method_154_code [(0, .getstatic 38, 3), (3, .ifCond .eq 14, 3), (6, .aload_n 0, 1), (7, .getfield 15, 3), (10, .ifCond .ne 7, 3), (17, .iconst 0, 1), (18, .ireturn, 1), (13, .iconst 1, 1), (14, .goto 4, 3)] := by decide +kernel
abbrev il1R : Room := { frames := 0, cells := 0, slots := 0, locals := 0 }
theorem il1 (hw : yQ a0 Z) (a1 : Nat) (O0 : Old Z n0 h0) (CS : uE Z) (F1 : Fld Z h0 a1 sN2 "coder" "B" (.int 1)) :
 yZ l Z mN13 jdk_42_method_154_code 1 (some .boolean) [] il1R #[(.ref a1)] h0 (fun v h L => v = some (.int 0) ∧ Fr n0 L ∧ h = h0) := by
 refine yK (plainFor_of_name pd8) ?_
 intro p e s m below meth c T0 X0 hx hby hml hZ hown hnm hret hlk e0
 have W := qC hw
 have Q := @yR p c _ _ _ hx hby d11
 have N0 := Fr.nil n0
 have zO := yM O0
 have zo := CS
 obtain ⟨zc, Sc, hzc⟩ := zo
 refine yP 0 rfl rfl ?_
 refine yG m 0 #[rv a1] [] ?_
 refine yO (getS2 X0 hx hZ hown (host := "") (Or.inl (W 21)) Via.refl e0 (Sc.ext O0.2) rfl (Q 0).2) ?_
 intro T101 X101 e101
 refine yA (fun _ z_ => qA X101 (Q 1) rfl ((if0 _ _).trans (feq hzc).1) (yC X101 (Q 2) rfl rfl z_)) ?_
 refine yO (yV X101 hZ hown (W 33) e101 F1 rfl rfl (Q 3)) ?_
 intro T102 X102 e102
 refine yA (fun _ z_ => qF X102 10 17 rfl (Q 4) rfl ((if0 _ _).trans (feq (by decide)).2) (by decide) (yH X102 (Q 5) z_)) ?_
 exact yW X102 hlk e102 hret (by decide) uN (Q 6) (by decide) ⟨rfl, N0, rfl⟩
abbrev il0R : Room := { frames := 0, cells := 0, slots := 0, locals := 0 }
theorem il0 (hw : yQ a0 Z) (a1 : Nat) (O0 : Old Z n0 h0) (CS : uE Z) (F1 : Fld Z h0 a1 sN2 "coder" "B" (.int 0)) :
 yZ l Z mN13 jdk_42_method_154_code 1 (some .boolean) [] il0R #[(.ref a1)] h0 (fun v h L => v = some (.int 1) ∧ Fr n0 L ∧ h = h0) := by
 refine yK (plainFor_of_name pd8) ?_
 intro p e s m below meth c T0 X0 hx hby hml hZ hown hnm hret hlk e0
 have W := qC hw
 have Q := @yR p c _ _ _ hx hby d11
 have N0 := Fr.nil n0
 have zO := yM O0
 have zo := CS
 obtain ⟨zc, Sc, hzc⟩ := zo
 refine yP 0 rfl rfl ?_
 refine yG m 0 #[rv a1] [] ?_
 refine yO (getS2 X0 hx hZ hown (host := "") (Or.inl (W 21)) Via.refl e0 (Sc.ext O0.2) rfl (Q 0).2) ?_
 intro T101 X101 e101
 refine yA (fun _ z_ => qA X101 (Q 1) rfl ((if0 _ _).trans (feq hzc).1) (yC X101 (Q 2) rfl rfl z_)) ?_
 refine yO (yV X101 hZ hown (W 33) e101 F1 rfl rfl (Q 3)) ?_
 intro T102 X102 e102
 refine yA (fun _ z_ => qA X102 (Q 4) rfl ((if0 _ _).trans (teq (by decide)).2) (yH X102 (Q 7) (yT X102 14 18 rfl (Q 8) (by decide) z_))) ?_
 exact yW X102 hlk e102 hret (by decide) uN (Q 6) (by decide) ⟨rfl, N0, rfl⟩
theorem o_gl (L : List Int32) {k : Nat} (h : k < L.length) : (L.map fun c => Value.int (StrChars.lo8 c)).getD k (.int 0) = .int (StrChars.lo8 (L.getD k 0)) := by
 simp [List.getD_eq_getElem?_getD, List.getElem?_map, List.getElem?_eq_getElem h]
theorem o_loT : ∀ k : Fin 256, ((StrChars.lo8 (ofNat k.val) &&& (255 : Int32)).toUInt32.toUInt16.toUInt32.toInt32) = ofNat k.val := by decide +kernel
theorem o_loc {c : Int32} (h0 : ¬ c < 0) (h1 : ¬ (255 : Int32) < c) : ((StrChars.lo8 c &&& (255 : Int32)).toUInt32.toUInt16.toUInt32.toInt32) = c := by
 rw [o_lt] at h0 h1
 have e1 : (255 : Int32).toInt = 255 := rfl
 have e2 : (0 : Int32).toInt = 0 := rfl
 obtain ⟨n, rfl, q⟩ := o_exN (x := c) (by omega)
 exact o_loT ⟨n, by omega⟩
theorem o_shrN : ∀ i : Fin 21, (ofNat (2 * i.val) >>> ((1 : Int32) &&& 31)) = ofNat i.val := by decide +kernel
theorem o_shr {i : Nat} (h : i ≤ 20) : (ofNat (2 * i) >>> ((1 : Int32) &&& 31)) = ofNat i := o_shrN ⟨i, by omega⟩
theorem d12 : yX jdk_43_method_2_code [(0, .iload_n 1, 1), (1, .aload_n 0, 1), (2, .arraylength, 1), (3, .invokestatic 9, 3), (6, .aload_n 0, 1), (7, .iload_n 1, 1), (8, .baload, 1), (9, .sipush 255, 3), (12, .iand, 1), (13, .i2c, 1), (14, .ireturn, 1)] := by decide +kernel
theorem pd12 : parseMethodDescriptor "(II)V" = some ⟨[.int, .int], none⟩ := by decide +kernel
theorem pd13 : plainName sN18 = true := by first | (simp [plainName, overriddenIn]; done) | decide +kernel
abbrev lcWR : Room := { frames := 2, cells := 0, slots := 0, locals := 27 }
theorem lcW (hw : yQ a0 Z) (a1 : Nat) (k1 : ClassId) (cs : List Int32) (i : Nat) (O0 : Old Z n0 h0) (FM : uQ Z) (hi : i < cs.length) (hk : cs.length ≤ 20) (hbd : ∀ c ∈ cs, ¬ c < 0 ∧ ¬ (65535 : Int32) < c) (hlat : ∀ c ∈ cs, ¬ (255 : Int32) < c) (V1 : Arv Z h0 a1 k1 .byte (ofNat cs.length) (cs.map fun c => Value.int (StrChars.lo8 c)) (.int 0)) :
 yZ l Z (⟨sN18, "charAt", "([BI)C"⟩ : MethodName) jdk_43_method_2_code 2 (some .char) [] lcWR #[(.ref a1), (.int (ofNat i))] h0 (fun v h L => v = some (.int (cs.getD i 0)) ∧ Fr n0 L ∧ h = h0) := by
 refine yK (plainFor_of_name pd13) ?_
 intro p e s m below meth c T0 X0 hx hby hml hZ hown hnm hret hlk e0
 have hM := @qK _ _ hml
 have W := qC hw
 have Q := @yR p c _ _ _ hx hby d12
 have N0 := Fr.nil n0
 have zO := yM O0
 refine yP 0 rfl rfl ?_
 refine yG m 0 #[rv a1, iv (ofNat i)] [] ?_
 refine yA (fun _ z_ => yE X0 (Q 0) rfl (yC X0 (Q 1) rfl rfl z_)) ?_
 refine yG m 2 #[rv a1, iv (ofNat i)] [(.ref a1), (.int (ofNat i))] ?_
 have zo := V1
 obtain ⟨c101, Ar101, q101, S101, M101, H101, U101⟩ := zo
 refine yA (X0.arraylength hx (by rw [e0]; exact Ar101.1) (State.isArrayOf_alike hZ.alike Ar101.2.1) (g := (mkF m 2 #[rv a1, iv (ofNat i)] [(.ref a1), (.int (ofNat i))])) rfl rfl (Q 2).2) ?_
 rw [len_of S101 M101]
 refine yL (qD X0 hZ (y := mN42) hown (W 65) (W 66) (W 10) (W 67) 0 (ckS hw (ofNat i) (ofNat cs.length) O0 FM (uK (by omega)) ((qP (by omega) (by omega)).mpr hi)) e0 (by decide) rfl (hM rfl) [(.int (ofNat i)), (.int (ofNat cs.length))] (rest := []) pd12 rfl rfl rfl rfl rfl (Q 3)) ?_
 rintro T102 _ _ h102 X102 e102 ⟨rfl, N102q, hq102⟩
 replace e102 := e102.trans hq102
 have N102 := Fr.app N0 N102q
 refine yA (fun _ z_ => yC X102 (Q 4) rfl rfl (yE X102 (Q 5) rfl z_)) ?_
 have zo := V1
 obtain ⟨c103, Ar103, q103, S103, M103, H103, U103⟩ := zo
 have hi103 := inb_of (j := (ofNat i)) S103 ⟨uK (by omega), (qP (by omega) (by omega)).mpr hi⟩
 refine yA (X102.baloadBytes hx (j := (ofNat i)) (v := (.int (StrChars.lo8 (cs.getD i 0)))) (by rw [e102]; exact Ar103.1) (State.isArrayOf_alike hZ.alike Ar103.2.1) Ar103.2.2 hi103 (H103.at hi103 (by rw [qU (by omega)]; exact o_gl cs hi)) (g := (mkF m 8 #[rv a1, iv (ofNat i)] [(.int (ofNat i)), (.ref a1)])) rfl rfl (Q 6).2) ?_
 refine yA (fun _ z_ => XS.sipush X102.here hx rfl (Q 7).2 (XS.iand X102.here hx rfl (Q 8).2 rfl (XS.i2c X102.here hx rfl (Q 9).2 rfl z_))) ?_
 refine yG m 14 #[rv a1, iv (ofNat i)] [(.int (((StrChars.lo8 (cs.getD i 0)) &&& (255 : Int32)).toUInt32.toUInt16.toUInt32.toInt32))] ?_
 rw [o_loc (o_gin hbd hi).1 (o_gin hlat hi)]
 exact yW X102 hlk e102 hret (o_rc16 (o_gin hbd hi)) o_iC (Q 10) (by decide) ⟨rfl, N102, rfl⟩
theorem d91 : yX jdk_52_method_6_code [(0, .aload_n 0, 1), (1, .arraylength, 1), (2, .iconst 1, 1), (3, .ishr, 1), (4, .ireturn, 1)] := by decide +kernel
abbrev ulWR : Room := { frames := 0, cells := 0, slots := 0, locals := 0 }
theorem ulW (hw : yQ a0 Z) (a1 : Nat) (k1 : ClassId) (i : Nat) (vs : List Value) (O0 : Old Z n0 h0) (hi : i ≤ 20) (V1 : Arv Z h0 a1 k1 .byte (ofNat (2 * i)) vs (.int 0)) :
 yZ l Z mN43 jdk_52_method_6_code 1 (some .int) [] ulWR #[(.ref a1)] h0 (fun v h L => v = some (.int (ofNat i)) ∧ Fr n0 L ∧ h = h0) := by
 refine yK (plainFor_of_name pd0) ?_
 intro p e s m below meth c T0 X0 hx hby hml hZ hown hnm hret hlk e0
 have W := qC hw
 have Q := @yR p c _ _ _ hx hby d91
 have N0 := Fr.nil n0
 have zO := yM O0
 refine yP 0 rfl rfl ?_
 refine yG m 0 #[rv a1] [] ?_
 refine yA (fun _ z_ => yC X0 (Q 0) rfl rfl z_) ?_
 have zo := V1
 obtain ⟨c101, Ar101, q101, S101, M101, H101, U101⟩ := zo
 refine yA (X0.arraylength hx (by rw [e0]; exact Ar101.1) (State.isArrayOf_alike hZ.alike Ar101.2.1) (g := (mkF m 1 #[rv a1] [(.ref a1)])) rfl rfl (Q 1).2) ?_
 rw [len_of S101 M101]
 refine yA (fun _ z_ => yH X0 (Q 2) (XS.ishr X0.here hx rfl (Q 3).2 rfl z_)) ?_
 refine yG m 4 #[rv a1] [(.int ((ofNat (2 * i)) >>> ((1 : Int32) &&& 31)))] ?_
 rw [o_shr hi]
 exact yW X0 hlk e0 hret rfl o_iI (Q 4) (by decide) ⟨rfl, N0, rfl⟩
theorem d90 : yX jdk_52_method_91_code [(0, .iload_n 0, 1), (1, .aload_n 1, 1), (2, .invokestatic 48, 3), (5, .invokestatic 414, 3), (8, .return_, 1)] := by decide +kernel
theorem pd14 : parseMethodDescriptor "([B)I" = some ⟨[(.array .byte)], some .int⟩ := by decide +kernel
abbrev uxWR : Room := { frames := 2, cells := 0, slots := 0, locals := 27 }
theorem uxW (hw : yQ a0 Z) (a1 : Nat) (k1 : ClassId) (i mm : Nat) (vs : List Value) (O0 : Old Z n0 h0) (FM : uQ Z) (hi : i < mm) (hk : mm ≤ 20) (V1 : Arv Z h0 a1 k1 .byte (ofNat (2 * mm)) vs (.int 0)) :
 yZ l Z mN44 jdk_52_method_91_code 2 none [] uxWR #[(.int (ofNat i)), (.ref a1)] h0 (fun v h L => v = none ∧ Fr n0 L ∧ h = h0) := by
 refine yK (plainFor_of_name pd0) ?_
 intro p e s m below meth c T0 X0 hx hby hml hZ hown hnm hret hlk e0
 have hM := @qK _ _ hml
 have W := qC hw
 have Q := @yR p c _ _ _ hx hby d90
 have N0 := Fr.nil n0
 have zO := yM O0
 refine yP 0 rfl rfl ?_
 refine yG m 0 #[iv (ofNat i), rv a1] [] ?_
 refine yA (fun _ z_ => yE X0 (Q 0) rfl (yC X0 (Q 1) rfl rfl z_)) ?_
 refine yL (qD X0 hZ (y := mN43) hown (W 492) (W 493) (W 24) (W 494) 1 (ulW hw a1 _ mm _ O0 (by omega) V1) e0 (by decide) rfl (hM rfl) [(.ref a1)] (rest := [(.int (ofNat i))]) pd14 rfl rfl rfl rfl rfl (Q 2)) ?_
 rintro T101 _ _ h101 X101 e101 ⟨rfl, N101q, hq101⟩
 replace e101 := e101.trans hq101
 have N101 := Fr.app N0 N101q
 refine yL (qD X101 hZ (y := mN42) hown (W 495) (W 66) (W 10) (W 67) 0 (ckS hw (ofNat i) (ofNat mm) O0 FM (uK (by omega)) ((qP (by omega) (by omega)).mpr hi)) e101 (by decide) rfl (hM rfl) [(.int (ofNat i)), (.int (ofNat mm))] (rest := []) pd12 rfl rfl rfl rfl rfl (Q 3)) ?_
 rintro T102 _ _ h102 X102 e102 ⟨rfl, N102q, hq102⟩
 replace e102 := e102.trans hq102
 have N102 := Fr.app N101 N102q
 exact uG X102 hlk e102 hret (Q 4) (by decide) ⟨rfl, N102, rfl⟩
theorem d89 : yX jdk_52_method_83_code [(0, .iload_n 1, 1), (1, .aload_n 0, 1), (2, .invokestatic 67, 3), (5, .aload_n 0, 1), (6, .iload_n 1, 1), (7, .invokestatic 71, 3), (10, .ireturn, 1)] := by decide +kernel
theorem pd15 : parseMethodDescriptor "(I[B)V" = some ⟨[.int, (.array .byte)], none⟩ := by decide +kernel
abbrev ucWR : Room := { frames := 3, cells := 0, slots := 0, locals := 40 }
theorem ucW (hw : yQ a0 Z) (a1 : Nat) (k1 : ClassId) (cs : List Int32) (i : Nat) (O0 : Old Z n0 h0) (FM : uQ Z) (UT : uB Z) (hi : i < cs.length) (hk : cs.length ≤ 20) (hbd : ∀ c ∈ cs, ¬ c < 0 ∧ ¬ (65535 : Int32) < c) (V1 : Arv Z h0 a1 k1 .byte (ofNat (2 * cs.length)) (StrChars.Road.wideBytes cs) (.int 0)) :
 yZ l Z (⟨sN11, "charAt", "([BI)C"⟩ : MethodName) jdk_52_method_83_code 2 (some .char) [] ucWR #[(.ref a1), (.int (ofNat i))] h0 (fun v h L => v = some (.int (cs.getD i 0)) ∧ Fr n0 L ∧ h = h0) := by
 refine yK (plainFor_of_name pd0) ?_
 intro p e s m below meth c T0 X0 hx hby hml hZ hown hnm hret hlk e0
 have hM := @qK _ _ hml
 have W := qC hw
 have Q := @yR p c _ _ _ hx hby d89
 have N0 := Fr.nil n0
 have zO := yM O0
 refine yP 0 rfl rfl ?_
 refine yG m 0 #[rv a1, iv (ofNat i)] [] ?_
 refine yA (fun _ z_ => yE X0 (Q 0) rfl (yC X0 (Q 1) rfl rfl z_)) ?_
 refine yL (qD X0 hZ (y := mN44) hown (W 489) (W 490) (W 24) (W 491) 0 (uxW hw a1 _ i cs.length _ O0 FM (by omega) (by omega) V1) e0 (by decide) rfl (hM rfl) [(.int (ofNat i)), (.ref a1)] (rest := []) pd15 rfl rfl rfl rfl rfl (Q 2)) ?_
 rintro T101 _ _ h101 X101 e101 ⟨rfl, N101q, hq101⟩
 replace e101 := e101.trans hq101
 have N101 := Fr.app N0 N101q
 refine yA (fun _ z_ => yC X101 (Q 3) rfl rfl (yE X101 (Q 4) rfl z_)) ?_
 refine yL (qD X101 hZ (y := mN41) hown (W 483) (W 484) (W 24) (W 485) 0 (gcN hw a1 _ cs i O0 UT hi hk hbd V1) e101 (by decide) rfl (hM rfl) [(.ref a1), (.int (ofNat i))] (rest := []) pd6 rfl rfl rfl rfl rfl (Q 5)) ?_
 rintro T102 _ _ h102 X102 e102 ⟨rfl, N102q, hq102⟩
 replace e102 := e102.trans hq102
 have N102 := Fr.app N101 N102q
 exact yW X102 hlk e102 hret (o_rc16 (o_gin hbd hi)) o_iC (Q 6) (by decide) ⟨rfl, N102, rfl⟩
theorem d10 : yX jdk_42_method_56_code [(0, .aload_n 0, 1), (1, .invokevirtual 492, 3), (4, .ifCond .eq 12, 3), (16, .aload_n 0, 1), (17, .getfield 9, 3), (20, .iload_n 1, 1), (21, .invokestatic 498, 3), (24, .ireturn, 1), (7, .aload_n 0, 1), (8, .getfield 9, 3), (11, .iload_n 1, 1), (12, .invokestatic 495, 3), (15, .ireturn, 1)] := by decide +kernel
theorem pd16 : parseMethodDescriptor "()Z" = some ⟨[], some .boolean⟩ := by decide +kernel
abbrev chUR : Room := { frames := 4, cells := 0, slots := 0, locals := 53 }
theorem chU (hw : yQ a0 Z) (a1 : Nat) (cs : List Int32) (i : Nat) (O0 : Old Z n0 h0) (CS : uE Z) (FM : uQ Z) (UT : uB Z) (hi : i < cs.length) (hk : cs.length ≤ 20) (S1 : qQ Z h0 a1 cs) (hlat : ¬ (∀ c ∈ cs, ¬ (255 : Int32) < c)) :
 yZ l Z mN8 jdk_42_method_56_code 2 (some .char) [] chUR #[(.ref a1), (.int (ofNat i))] h0 (fun v h L => v = some (.int (cs.getD i 0)) ∧ Fr n0 L ∧ h = h0) := by
 refine yK (plainFor_of_name pd8) ?_
 intro p e s m below meth c T0 X0 hx hby hml hZ hown hnm hret hlk e0
 have hM := @qK _ _ hml
 have W := qC hw
 have Q := @yR p c _ _ _ hx hby d10
 have N0 := Fr.nil n0
 have zO := yM O0
 have zo := S1
 obtain ⟨E1, t1, kb1, cd1, N21, vs1, F1, F2, A1, r1, hbd, r3⟩ := zo
 obtain ⟨rfl, rfl, rfl⟩ : cd1 = 1 ∧ N21 = ofNat (2 * cs.length) ∧ vs1 = StrChars.Road.wideBytes cs := by
  rcases r1 with ⟨-, -, -, q⟩ | ⟨q1, q2, q3, -⟩
  · exact absurd q hlat
  · exact ⟨q1, q2, q3⟩
 refine yP 0 rfl rfl ?_
 refine yG m 0 #[rv a1, iv (ofNat i)] [] ?_
 refine yA (fun _ z_ => yC X0 (Q 0) rfl rfl z_) ?_
 refine yL (qZ X0 hZ (y := mN13) hown (W 56) (W 57) (W 59) (W 58) (W 60) (W 10) 0 (il1 hw a1 O0 CS F2) e0 E1 (by decide) rfl (hM rfl) [] (rest := []) pd16 rfl rfl rfl rfl rfl (Q 1)) ?_
 rintro T101 _ _ h101 X101 e101 ⟨rfl, N101q, hq101⟩
 replace e101 := e101.trans hq101
 have N101 := Fr.app N0 N101q
 refine yA (fun _ z_ => qF X101 4 16 rfl (Q 2) rfl ((if0 _ _).trans (teq (by decide)).1) (by decide) (yC X101 (Q 3) rfl rfl z_)) ?_
 refine yO (yV X101 hZ hown (W 35) e101 F1 rfl rfl (Q 4)) ?_
 intro T102 X102 e102
 refine yA (fun _ z_ => yE X102 (Q 5) rfl z_) ?_
 refine yG m 21 #[rv a1, iv (ofNat i)] [(.int (ofNat i)), (.ref t1)] ?_
 refine yL (qD X102 hZ (y := (⟨sN11, "charAt", "([BI)C"⟩ : MethodName)) hown (W 486) (W 487) (W 24) (W 488) 0 (ucW hw t1 _ cs i O0 FM UT hi hk hbd A1) e102 (by decide) rfl (hM rfl) [(.ref t1), (.int (ofNat i))] (rest := []) pd6 rfl rfl rfl rfl rfl (Q 6)) ?_
 rintro T103 _ _ h103 X103 e103 ⟨rfl, N103q, hq103⟩
 replace e103 := e103.trans hq103
 have N103 := Fr.app N101 N103q
 exact yW X103 hlk e103 hret (o_rc16 (o_gin hbd hi)) o_iC (Q 7) (by decide) ⟨rfl, N103, rfl⟩
abbrev chLR : Room := { frames := 4, cells := 0, slots := 0, locals := 53 }
theorem chL (hw : yQ a0 Z) (a1 : Nat) (cs : List Int32) (i : Nat) (O0 : Old Z n0 h0) (CS : uE Z) (FM : uQ Z) (UT : uB Z) (hi : i < cs.length) (hk : cs.length ≤ 20) (S1 : qQ Z h0 a1 cs) (hlat : (∀ c ∈ cs, ¬ (255 : Int32) < c)) :
 yZ l Z mN8 jdk_42_method_56_code 2 (some .char) [] chLR #[(.ref a1), (.int (ofNat i))] h0 (fun v h L => v = some (.int (cs.getD i 0)) ∧ Fr n0 L ∧ h = h0) := by
 refine yK (plainFor_of_name pd8) ?_
 intro p e s m below meth c T0 X0 hx hby hml hZ hown hnm hret hlk e0
 have hM := @qK _ _ hml
 have W := qC hw
 have Q := @yR p c _ _ _ hx hby d10
 have N0 := Fr.nil n0
 have zO := yM O0
 have zo := S1
 obtain ⟨E1, t1, kb1, cd1, N21, vs1, F1, F2, A1, r1, hbd, r3⟩ := zo
 obtain ⟨rfl, rfl, rfl⟩ : cd1 = 0 ∧ N21 = ofNat cs.length ∧ vs1 = (cs.map fun c => Value.int (StrChars.lo8 c)) := by
  rcases r1 with ⟨q1, q2, q3, -⟩ | ⟨-, -, -, c, q1, q2⟩
  · exact ⟨q1, q2, q3⟩
  · exact absurd q2 (hlat c q1)
 refine yP 0 rfl rfl ?_
 refine yG m 0 #[rv a1, iv (ofNat i)] [] ?_
 refine yA (fun _ z_ => yC X0 (Q 0) rfl rfl z_) ?_
 refine yL (qZ X0 hZ (y := mN13) hown (W 56) (W 57) (W 59) (W 58) (W 60) (W 10) 0 (il0 hw a1 O0 CS F2) e0 E1 (by decide) rfl (hM rfl) [] (rest := []) pd16 rfl rfl rfl rfl rfl (Q 1)) ?_
 rintro T101 _ _ h101 X101 e101 ⟨rfl, N101q, hq101⟩
 replace e101 := e101.trans hq101
 have N101 := Fr.app N0 N101q
 refine yA (fun _ z_ => qA X101 (Q 2) rfl ((if0 _ _).trans (feq (by decide)).1) (yC X101 (Q 8) rfl rfl z_)) ?_
 refine yO (yV X101 hZ hown (W 35) e101 F1 rfl rfl (Q 9)) ?_
 intro T102 X102 e102
 refine yA (fun _ z_ => yE X102 (Q 10) rfl z_) ?_
 refine yL (qD X102 hZ (y := (⟨sN18, "charAt", "([BI)C"⟩ : MethodName)) hown (W 61) (W 62) (W 63) (W 64) 0 (lcW hw t1 _ cs i O0 FM hi hk hbd hlat A1) e102 (by decide) rfl (hM rfl) [(.ref t1), (.int (ofNat i))] (rest := []) pd6 rfl rfl rfl rfl rfl (Q 11)) ?_
 rintro T103 _ _ h103 X103 e103 ⟨rfl, N103q, hq103⟩
 replace e103 := e103.trans hq103
 have N103 := Fr.app N101 N103q
 exact yW X103 hlk e103 hret (o_rc16 (o_gin hbd hi)) o_iC (Q 12) (by decide) ⟨rfl, N103, rfl⟩
theorem chA (hw : yQ a0 Z) (a1 : Nat) (cs : List Int32) (i : Nat) (O0 : Old Z n0 h0) (CS : uE Z) (FM : uQ Z) (UT : uB Z) (hi : i < cs.length) (hk : cs.length ≤ 20) (S1 : qQ Z h0 a1 cs) :
 yZ l Z mN8 jdk_42_method_56_code 2 (some .char) [] chUR #[.ref a1, .int (ofNat i)] h0 (fun v h L => v = some (.int (cs.getD i 0)) ∧ Fr n0 L ∧ h = h0) := by
 by_cases hlat : ∀ c ∈ cs, ¬ (255 : Int32) < c
 · exact chL hw a1 cs i O0 CS FM UT hi hk S1 hlat
 · exact chU hw a1 cs i O0 CS FM UT hi hk S1 hlat
def o_bv (vs : List Value) (i : Nat) : Int32 := match vs.getD i (.int 0) with | .int x => x | _ => 0
def o_ints (vs : List Value) : Prop := ∀ i, vs.getD i (.int 0) = .int (o_bv vs i)
theorem o_intsM (cs : List Int32) : o_ints (cs.map fun c => Value.int (StrChars.lo8 c)) := fun i => by
 unfold o_bv
 simp only [List.getD_eq_getElem?_getD, List.getElem?_map]
 cases cs[i]? <;> rfl
theorem o_intsW : ∀ cs : List Int32, o_ints (StrChars.Road.wideBytes cs)
 | [], i => rfl
 | c :: cs, 0 => rfl
 | c :: cs, 1 => rfl
 | c :: cs, i + 2 => o_intsW cs i
theorem o_cda {cs : List Int32} {cd cd' N N' : Int32} {vs vs' : List Value} (h : StrChars.Road.CodA cs cd N vs) (h' : StrChars.Road.CodA cs cd' N' vs') : cd = cd' ∧ N = N' ∧ vs = vs' := by
 rcases h with ⟨rfl, rfl, rfl, q⟩ | ⟨rfl, rfl, rfl, c, q1, q2⟩ <;> rcases h' with ⟨rfl, rfl, rfl, r⟩ | ⟨rfl, rfl, rfl, d, r1, r2⟩
 · exact ⟨rfl, rfl, rfl⟩
 · exact absurd r2 (q d r1)
 · exact absurd q2 (r c q1)
 · exact ⟨rfl, rfl, rfl⟩
theorem o_cdn {cs : List Int32} {cd N : Int32} {vs : List Value} (h : StrChars.Road.CodA cs cd N vs) (hk : cs.length ≤ 30) : ∃ n : Nat, n ≤ 60 ∧ ofNat n = N ∧ o_ints vs := by
 rcases h with ⟨-, rfl, rfl, -⟩ | ⟨-, rfl, rfl, -⟩
 · exact ⟨_, by omega, rfl, o_intsM cs⟩
 · exact ⟨_, by omega, rfl, o_intsW cs⟩
theorem d17 : yX jdk_42_method_152_code [(0, .getstatic 38, 3), (3, .ifCond .eq 10, 3), (6, .aload_n 0, 1), (7, .getfield 15, 3), (10, .goto 4, 3), (14, .ireturn, 1)] := by decide +kernel
abbrev sco0R : Room := { frames := 0, cells := 0, slots := 0, locals := 0 }
theorem sco0 (hw : yQ a0 Z) (a1 : Nat) (O0 : Old Z n0 h0) (CS : uE Z) (F1 : Fld Z h0 a1 sN2 "coder" "B" (.int 0)) :
 yZ l Z mN27 jdk_42_method_152_code 1 (some .byte) [] sco0R #[(.ref a1)] h0 (fun v h L => v = some (.int 0) ∧ Fr n0 L ∧ h = h0) := by
 refine yK (plainFor_of_name pd8) ?_
 intro p e s m below meth c T0 X0 hx hby hml hZ hown hnm hret hlk e0
 have W := qC hw
 have Q := @yR p c _ _ _ hx hby d17
 have N0 := Fr.nil n0
 have zO := yM O0
 have zo := CS
 obtain ⟨zc, Sc, hzc⟩ := zo
 refine yP 0 rfl rfl ?_
 refine yG m 0 #[rv a1] [] ?_
 refine yO (getS2 X0 hx hZ hown (host := "") (Or.inl (W 21)) Via.refl e0 (Sc.ext O0.2) rfl (Q 0).2) ?_
 intro T101 X101 e101
 refine yA (fun _ z_ => qA X101 (Q 1) rfl ((if0 _ _).trans (feq hzc).1) (yC X101 (Q 2) rfl rfl z_)) ?_
 refine yO (yV X101 hZ hown (W 33) e101 F1 rfl rfl (Q 3)) ?_
 intro T102 X102 e102
 refine yA (fun _ z_ => yT X102 10 14 rfl (Q 4) (by decide) z_) ?_
 exact yW X102 hlk e102 hret (by decide) o_iY (Q 5) (by decide) ⟨rfl, N0, rfl⟩
abbrev sco1R : Room := { frames := 0, cells := 0, slots := 0, locals := 0 }
theorem sco1 (hw : yQ a0 Z) (a1 : Nat) (O0 : Old Z n0 h0) (CS : uE Z) (F1 : Fld Z h0 a1 sN2 "coder" "B" (.int 1)) :
 yZ l Z mN27 jdk_42_method_152_code 1 (some .byte) [] sco1R #[(.ref a1)] h0 (fun v h L => v = some (.int 1) ∧ Fr n0 L ∧ h = h0) := by
 refine yK (plainFor_of_name pd8) ?_
 intro p e s m below meth c T0 X0 hx hby hml hZ hown hnm hret hlk e0
 have W := qC hw
 have Q := @yR p c _ _ _ hx hby d17
 have N0 := Fr.nil n0
 have zO := yM O0
 have zo := CS
 obtain ⟨zc, Sc, hzc⟩ := zo
 refine yP 0 rfl rfl ?_
 refine yG m 0 #[rv a1] [] ?_
 refine yG m 0 #[rv a1] [] ?_
 refine yO (getS2 X0 hx hZ hown (host := "") (Or.inl (W 21)) Via.refl e0 (Sc.ext O0.2) rfl (Q 0).2) ?_
 intro T101 X101 e101
 refine yA (fun _ z_ => qA X101 (Q 1) rfl ((if0 _ _).trans (feq hzc).1) (yC X101 (Q 2) rfl rfl z_)) ?_
 refine yO (yV X101 hZ hown (W 33) e101 F1 rfl rfl (Q 3)) ?_
 intro T102 X102 e102
 refine yA (fun _ z_ => yT X102 10 14 rfl (Q 4) (by decide) z_) ?_
 exact yW X102 hlk e102 hret (by decide) o_iY (Q 5) (by decide) ⟨rfl, N0, rfl⟩
theorem d16 : yX jdk_42_method_54_code [(0, .aload_n 0, 1), (1, .getfield 9, 3), (4, .arraylength, 1), (5, .aload_n 0, 1), (6, .invokevirtual 335, 3), (9, .ishr, 1), (10, .ireturn, 1)] := by decide +kernel
theorem pd17 : parseMethodDescriptor "()B" = some ⟨[], some .byte⟩ := by decide +kernel
abbrev slnR : Room := { frames := 1, cells := 0, slots := 0, locals := 13 }
theorem sln (hw : yQ a0 Z) (a1 : Nat) (cs : List Int32) (O0 : Old Z n0 h0) (CS : uE Z) (hk : cs.length ≤ 20) (S1 : qQ Z h0 a1 cs) :
 yZ l Z mN5 jdk_42_method_54_code 1 (some .int) [] slnR #[(.ref a1)] h0 (fun v h L => v = some (.int (ofNat cs.length)) ∧ Fr n0 L ∧ h = h0) := by
 refine yK (plainFor_of_name pd8) ?_
 intro p e s m below meth c T0 X0 hx hby hml hZ hown hnm hret hlk e0
 have hM := @qK _ _ hml
 have W := qC hw
 have Q := @yR p c _ _ _ hx hby d16
 have N0 := Fr.nil n0
 have zO := yM O0
 have zo := S1
 obtain ⟨E1, t1, kb1, cd1, N1, vs1, F1, F2, A1, r1, hbd, r3⟩ := zo
 refine yP 0 rfl rfl ?_
 refine yG m 0 #[rv a1] [] ?_
 rcases r1 with ⟨rfl, rfl, rfl, -⟩ | ⟨rfl, rfl, rfl, -⟩
 · refine yG m 0 #[rv a1] [] ?_
   refine yA (fun _ z_ => yC X0 (Q 0) rfl rfl z_) ?_
   refine yO (yV X0 hZ hown (W 35) e0 F1 rfl rfl (Q 1)) ?_
   intro T101 X101 e101
   have zo := A1
   obtain ⟨c102, Ar102, q102, S102, M102, H102, U102⟩ := zo
   refine yA (X101.arraylength hx (by rw [e101]; exact Ar102.1) (State.isArrayOf_alike hZ.alike Ar102.2.1) (g := (mkF m 4 #[rv a1] [(.ref t1)])) rfl rfl (Q 2).2) ?_
   rw [len_of S102 M102]
   refine yA (fun _ z_ => yC X101 (Q 3) rfl rfl z_) ?_
   refine yL (qZ X101 hZ (y := mN27) hown (W 85) (W 86) (W 88) (W 87) (W 89) (W 10) 1 (sco0 hw a1 O0 CS F2) e101 E1 (by decide) rfl (hM rfl) [] (rest := [(.int (ofNat cs.length))]) pd17 rfl rfl rfl rfl rfl (Q 4)) ?_
   rintro T103 _ _ h103 X103 e103 ⟨rfl, N103q, hq103⟩
   replace e103 := e103.trans hq103
   have N103 := Fr.app N0 N103q
   refine yA (fun _ z_ => XS.ishr X103.here hx rfl (Q 5).2 rfl z_) ?_
   refine yG m 10 #[rv a1] [(.int ((ofNat cs.length) >>> ((0 : Int32) &&& 31)))] ?_
   rw [show ((ofNat cs.length) >>> ((0 : Int32) &&& 31)) = (ofNat cs.length) from (StrChars.shr0 _)]
   exact yW X103 hlk e103 hret rfl o_iI (Q 6) (by decide) ⟨rfl, N103, rfl⟩
 · refine yG m 0 #[rv a1] [] ?_
   refine yA (fun _ z_ => yC X0 (Q 0) rfl rfl z_) ?_
   refine yO (yV X0 hZ hown (W 35) e0 F1 rfl rfl (Q 1)) ?_
   intro T104 X104 e104
   have zo := A1
   obtain ⟨c105, Ar105, q105, S105, M105, H105, U105⟩ := zo
   refine yA (X104.arraylength hx (by rw [e104]; exact Ar105.1) (State.isArrayOf_alike hZ.alike Ar105.2.1) (g := (mkF m 4 #[rv a1] [(.ref t1)])) rfl rfl (Q 2).2) ?_
   rw [len_of S105 M105]
   refine yA (fun _ z_ => yC X104 (Q 3) rfl rfl z_) ?_
   refine yL (qZ X104 hZ (y := mN27) hown (W 85) (W 86) (W 88) (W 87) (W 89) (W 10) 1 (sco1 hw a1 O0 CS F2) e104 E1 (by decide) rfl (hM rfl) [] (rest := [(.int (ofNat (2 * cs.length)))]) pd17 rfl rfl rfl rfl rfl (Q 4)) ?_
   rintro T106 _ _ h106 X106 e106 ⟨rfl, N106q, hq106⟩
   replace e106 := e106.trans hq106
   have N106 := Fr.app N0 N106q
   refine yA (fun _ z_ => XS.ishr X106.here hx rfl (Q 5).2 rfl z_) ?_
   refine yG m 10 #[rv a1] [(.int ((ofNat (2 * cs.length)) >>> ((1 : Int32) &&& 31)))] ?_
   rw [show ((ofNat (2 * cs.length)) >>> ((1 : Int32) &&& 31)) = (ofNat cs.length) from (o_shr hk)]
   exact yW X106 hlk e106 hret rfl o_iI (Q 6) (by decide) ⟨rfl, N106, rfl⟩
theorem d9 : yX jdk_42_method_55_code [(0, .aload_n 0, 1), (1, .getfield 9, 3), (4, .arraylength, 1), (5, .ifCond .ne 7, 3), (12, .iconst 0, 1), (13, .ireturn, 1)] := by decide +kernel
abbrev sieR : Room := { frames := 0, cells := 0, slots := 0, locals := 0 }
theorem sie (hw : yQ a0 Z) (a1 : Nat) (cs : List Int32) (O0 : Old Z n0 h0) (hk : cs.length ≤ 20) (h00 : 0 < cs.length) (S1 : qQ Z h0 a1 cs) :
 yZ l Z (⟨sN2, "isEmpty", "()Z"⟩ : MethodName) jdk_42_method_55_code 1 (some .boolean) [] sieR #[(.ref a1)] h0 (fun v h L => v = some (.int 0) ∧ Fr n0 L ∧ h = h0) := by
 refine yK (plainFor_of_name pd8) ?_
 intro p e s m below meth c T0 X0 hx hby hml hZ hown hnm hret hlk e0
 have W := qC hw
 have Q := @yR p c _ _ _ hx hby d9
 have N0 := Fr.nil n0
 have zO := yM O0
 have zo := S1
 obtain ⟨E1, t1, kb1, cd1, N1, vs1, F1, F2, A1, r1, hbd, r3⟩ := zo
 refine yP 0 rfl rfl ?_
 refine yG m 0 #[rv a1] [] ?_
 rcases r1 with ⟨rfl, rfl, rfl, -⟩ | ⟨rfl, rfl, rfl, -⟩
 · refine yG m 0 #[rv a1] [] ?_
   refine yA (fun _ z_ => yC X0 (Q 0) rfl rfl z_) ?_
   refine yO (yV X0 hZ hown (W 35) e0 F1 rfl rfl (Q 1)) ?_
   intro T101 X101 e101
   have zo := A1
   obtain ⟨c102, Ar102, q102, S102, M102, H102, U102⟩ := zo
   refine yA (X101.arraylength hx (by rw [e101]; exact Ar102.1) (State.isArrayOf_alike hZ.alike Ar102.2.1) (g := (mkF m 4 #[rv a1] [(.ref t1)])) rfl rfl (Q 2).2) ?_
   rw [len_of S102 M102]
   refine yA (fun _ z_ => qF X101 5 12 rfl (Q 3) rfl ((if0 _ _).trans (feq (fun q => absurd ((o_nin (b := 0) (by omega) (by omega)).mp q) (by omega))).2) (by decide) (yH X101 (Q 4) z_)) ?_
   exact yW X101 hlk e101 hret (by decide) uN (Q 5) (by decide) ⟨rfl, N0, rfl⟩
 · refine yG m 0 #[rv a1] [] ?_
   refine yA (fun _ z_ => yC X0 (Q 0) rfl rfl z_) ?_
   refine yO (yV X0 hZ hown (W 35) e0 F1 rfl rfl (Q 1)) ?_
   intro T103 X103 e103
   have zo := A1
   obtain ⟨c104, Ar104, q104, S104, M104, H104, U104⟩ := zo
   refine yA (X103.arraylength hx (by rw [e103]; exact Ar104.1) (State.isArrayOf_alike hZ.alike Ar104.2.1) (g := (mkF m 4 #[rv a1] [(.ref t1)])) rfl rfl (Q 2).2) ?_
   rw [len_of S104 M104]
   refine yA (fun _ z_ => qF X103 5 12 rfl (Q 3) rfl ((if0 _ _).trans (feq (fun q => absurd ((o_nin (b := 0) (by omega) (by omega)).mp q) (by omega))).2) (by decide) (yH X103 (Q 4) z_)) ?_
   exact yW X103 hlk e103 hret (by decide) uN (Q 5) (by decide) ⟨rfl, N0, rfl⟩
theorem d72 : yX jdk_43_method_13_code [(0, .aload_n 0, 1), (1, .arraylength, 1), (2, .aload_n 1, 1), (3, .arraylength, 1), (4, .if_icmp .ne 30, 3), (7, .iconst 0, 1), (8, .istore_n 2, 1), (9, .iload_n 2, 1), (10, .aload_n 0, 1), (11, .arraylength, 1), (12, .if_icmp .ge 20, 3), (15, .aload_n 0, 1), (16, .iload_n 2, 1), (17, .baload, 1), (18, .aload_n 1, 1), (19, .iload_n 2, 1), (20, .baload, 1), (21, .if_icmp .eq 5, 3), (26, .iinc 2 1, 3), (29, .goto (-20), 3), (32, .iconst 1, 1), (33, .ireturn, 1)] := by decide +kernel
abbrev leWR : Room := { frames := 0, cells := 0, slots := 0, locals := 0 }
theorem leW (hw : yQ a0 Z) (a1 a2 : Nat) (k1 k2 : ClassId) (n : Nat) (vs : List Value) (O0 : Old Z n0 h0) (hn : n ≤ 60) (hin : o_ints vs) (V1 : Arv Z h0 a1 k1 .byte (ofNat n) vs (.int 0)) (V2 : Arv Z h0 a2 k2 .byte (ofNat n) vs (.int 0)) :
 yZ l Z (⟨sN18, "equals", "([B[B)Z"⟩ : MethodName) jdk_43_method_13_code 3 (some .boolean) [] leWR #[(.ref a1), (.ref a2)] h0 (fun v h L => v = some (.int 1) ∧ Fr n0 L ∧ h = h0) := by
 refine yK (plainFor_of_name pd13) ?_
 intro p e s m below meth c T0 X0 hx hby hml hZ hown hnm hret hlk e0
 have W := qC hw
 have Q := @yR p c _ _ _ hx hby d72
 have N0 := Fr.nil n0
 have zO := yM O0
 refine yP 1 rfl rfl ?_
 refine yG m 0 #[rv a1, rv a2, .unset] [] ?_
 refine yA (fun _ z_ => yC X0 (Q 0) rfl rfl z_) ?_
 have zo := V1
 obtain ⟨c101, Ar101, q101, S101, M101, H101, U101⟩ := zo
 refine yA (X0.arraylength hx (by rw [e0]; exact Ar101.1) (State.isArrayOf_alike hZ.alike Ar101.2.1) (g := (mkF m 1 #[rv a1, rv a2, .unset] [(.ref a1)])) rfl rfl (Q 1).2) ?_
 rw [len_of S101 M101]
 refine yA (fun _ z_ => yC X0 (Q 2) rfl rfl z_) ?_
 have zo := V2
 obtain ⟨c102, Ar102, q102, S102, M102, H102, U102⟩ := zo
 refine yA (X0.arraylength hx (by rw [e0]; exact Ar102.1) (State.isArrayOf_alike hZ.alike Ar102.2.1) (g := (mkF m 3 #[rv a1, rv a2, .unset] [(.ref a2), (.int (ofNat n))])) rfl rfl (Q 3).2) ?_
 rw [len_of S102 M102]
 refine yA (fun _ z_ => qH X0 (Q 4) rfl (teq rfl).2 (yH X0 (Q 5) (XS.istoreN X0.here hx rfl (Q 6).2 rfl rfl z_))) ?_
 suffices G103 : ∀ (r : Nat) (Tj : State) (Lj : List Loc)  (i : Nat), (n - i = r) → (i ≤ n) → Stand p l e leWR s m #[(.ref a1), (.ref a2)] below meth c Tj Lj 0 0 → Tj.heap = h0 → Fr n0 Lj → uR p e below s (fun v h L => v = some (.int 1) ∧ Fr n0 L ∧ h = h0) leWR.cells leWR.slots (Tj.setTop (mkF m 9 #[rv a1, rv a2, iv (ofNat i)] [])) by
  exact G103 _ _ _ 0 rfl (Nat.zero_le _) X0 e0 N0
 intro r
 induction r using Nat.strongRecOn with
 | _ r ih =>
  intro TG103 LG103 i hm hi XG103 eG103 NG103
  refine yA (fun _ z_ => yE XG103 (Q 7) rfl (yC XG103 (Q 8) rfl rfl z_)) ?_
  have zo := V1
  obtain ⟨c104, Ar104, q104, S104, M104, H104, U104⟩ := zo
  refine yA (XG103.arraylength hx (by rw [eG103]; exact Ar104.1) (State.isArrayOf_alike hZ.alike Ar104.2.1) (g := (mkF m 11 #[rv a1, rv a2, iv (ofNat i)] [(.ref a1), (.int (ofNat i))])) rfl rfl (Q 9).2) ?_
  rw [len_of S104 M104]
  by_cases c105 : (ofNat i) < (ofNat n)
  · refine yA (fun _ z_ => qH XG103 (Q 10) rfl (tlt c105).2.1 z_) ?_
    have hlt : i < n := (qP (by omega) (by omega)).mp c105
    refine yA (fun _ z_ => yC XG103 (Q 11) rfl rfl (yE XG103 (Q 12) rfl z_)) ?_
    refine yG m 17 #[rv a1, rv a2, iv (ofNat i)] [(.int (ofNat i)), (.ref a1)] ?_
    have zo := V1
    obtain ⟨c106, Ar106, q106, S106, M106, H106, U106⟩ := zo
    have hi106 := inb_of (j := (ofNat i)) S106 ⟨uK (by omega), (qP (by omega) (by omega)).mpr hlt⟩
    refine yA (XG103.baloadBytes hx (j := (ofNat i)) (v := (.int (o_bv vs i))) (by rw [eG103]; exact Ar106.1) (State.isArrayOf_alike hZ.alike Ar106.2.1) Ar106.2.2 hi106 (H106.at hi106 (by rw [qU (by omega)]; exact hin i)) (g := (mkF m 17 #[rv a1, rv a2, iv (ofNat i)] [(.int (ofNat i)), (.ref a1)])) rfl rfl (Q 13).2) ?_
    refine yA (fun _ z_ => yC XG103 (Q 14) rfl rfl (yE XG103 (Q 15) rfl z_)) ?_
    have zo := V2
    obtain ⟨c107, Ar107, q107, S107, M107, H107, U107⟩ := zo
    have hi107 := inb_of (j := (ofNat i)) S107 ⟨uK (by omega), (qP (by omega) (by omega)).mpr hlt⟩
    refine yA (XG103.baloadBytes hx (j := (ofNat i)) (v := (.int (o_bv vs i))) (by rw [eG103]; exact Ar107.1) (State.isArrayOf_alike hZ.alike Ar107.2.1) Ar107.2.2 hi107 (H107.at hi107 (by rw [qU (by omega)]; exact hin i)) (g := (mkF m 20 #[rv a1, rv a2, iv (ofNat i)] [(.int (ofNat i)), (.ref a2), (.int (o_bv vs i))])) rfl rfl (Q 16).2) ?_
    refine yA (fun _ z_ => qG XG103 21 26 rfl (Q 17) rfl (teq rfl).1 (by decide) (XS.iinc XG103.here hx rfl (Q 18).2 rfl rfl (yT XG103 29 9 rfl (Q 19) (by decide) z_))) ?_
    refine yG m 9 #[rv a1, rv a2, iv ((ofNat i) + (1 : Int32))] [] ?_
    rw [show ofNat i + (1 : Int32) = ofNat (i + 1) from uD (b := 1) (by omega)]
    exact ih _ (by omega) _ _ (i + 1) rfl hlt XG103 eG103 NG103
  · refine yA (fun _ z_ => qG XG103 12 32 rfl (Q 10) rfl (flt c105).2.1 (by decide) (yH XG103 (Q 20) z_)) ?_
    exact yW XG103 hlk eG103 hret (by decide) uN (Q 21) (by decide) ⟨rfl, NG103, rfl⟩
theorem d71 : yX jdk_42_method_66_code [(0, .aload_n 0, 1), (1, .aload_n 1, 1), (2, .if_acmp .ne 5, 3), (5, .iconst 1, 1), (6, .ireturn, 1), (7, .aload_n 1, 1), (8, .instanceof 10, 3), (11, .ifCond .eq 43, 3), (14, .aload_n 1, 1), (15, .checkcast 10, 3), (18, .astore_n 2, 1), (19, .getstatic 38, 3), (22, .ifCond .eq 14, 3), (25, .aload_n 0, 1), (26, .getfield 15, 3), (29, .aload_n 2, 1), (30, .getfield 15, 3), (33, .if_icmp .ne 21, 3), (36, .aload_n 0, 1), (37, .getfield 9, 3), (40, .aload_n 2, 1), (41, .getfield 9, 3), (44, .invokestatic 541, 3), (47, .ifCond .eq 7, 3), (50, .iconst 1, 1), (51, .goto 4, 3), (55, .ireturn, 1)] := by decide +kernel
theorem pd18 : parseMethodDescriptor "([B[B)Z" = some ⟨[(.array .byte), (.array .byte)], some .boolean⟩ := by decide +kernel
abbrev seAR : Room := { frames := 1, cells := 0, slots := 0, locals := 14 }
theorem seA (hw : yQ a0 Z) (a1 a2 : Nat) (cs : List Int32) (O0 : Old Z n0 h0) (CS : uE Z) (hk : cs.length ≤ 30) (S1 : qQ Z h0 a1 cs) (S2 : qQ Z h0 a2 cs) :
 yZ l Z mN9 jdk_42_method_66_code 3 (some .boolean) [] seAR #[(.ref a1), (.ref a2)] h0 (fun v h L => v = some (.int 1) ∧ Fr n0 L ∧ h = h0) := by
 refine yK (plainFor_of_name pd8) ?_
 intro p e s m below meth c T0 X0 hx hby hml hZ hown hnm hret hlk e0
 have hM := @qK _ _ hml
 have W := qC hw
 have Q := @yR p c _ _ _ hx hby d71
 have N0 := Fr.nil n0
 have zO := yM O0
 have zo := S1
 obtain ⟨E1, t1, kb1, cd1, N1, vs1, F1, F2, A1, r1, hbd, r3⟩ := zo
 have zo := S2
 obtain ⟨E2, t2, kb2, cd2, N2, vs2, G1, G2, A2, r2, -, -⟩ := zo
 have zo := o_cda r1 r2
 obtain ⟨rfl, rfl, rfl⟩ := zo
 have zo := o_cdn r1 hk
 obtain ⟨nn, hnn, rfl, hin⟩ := zo
 have zo := CS
 obtain ⟨zc, Sc, hzc⟩ := zo
 refine yP 1 rfl rfl ?_
 refine yG m 0 #[rv a1, rv a2, .unset] [] ?_
 refine yA (fun _ z_ => yC X0 (Q 0) rfl rfl (yC X0 (Q 1) rfl rfl z_)) ?_
 have zo := Classical.em ((a1 : Nat) = a2)
 rcases zo with hea | hea
 · refine yG m 2 #[rv a1, rv a2, .unset] [(.ref a2), (.ref a1)] ?_
   refine yA (fun _ z_ => Jvm.RoadKit.acmp (g := (mkF m 2 #[rv a1, rv a2, .unset] [(.ref a2), (.ref a1)])) X0 hx rfl rfl rfl (pc0 := 2) (pc' := 5) (same := true) rfl (Q 2).2 rfl (decide_eq_true (congrArg Value.ref hea)) (by decide) (by decide) (yH X0 (Q 3) z_)) ?_
   exact yW X0 hlk e0 hret (by decide) uN (Q 4) (by decide) ⟨rfl, N0, rfl⟩
 · refine yG m 2 #[rv a1, rv a2, .unset] [(.ref a2), (.ref a1)] ?_
   refine yA (fun _ z_ => Jvm.RoadKit.acmp (g := (mkF m 2 #[rv a1, rv a2, .unset] [(.ref a2), (.ref a1)])) X0 hx rfl rfl rfl (pc0 := 2) (pc' := 7) (same := false) rfl (Q 2).2 rfl (decide_eq_false fun q => hea (Value.ref.inj q)) (by decide) (by decide) (yC X0 (Q 5) rfl rfl z_)) ?_
   refine yO (instY X0 hx hZ hown (W 421) e0 (Ins.self E2) rfl rfl (Q 6).2) ?_
   intro T101 X101 e101
   refine yA (fun _ z_ => qA X101 (Q 7) rfl ((if0 _ _).trans (feq (by decide)).1) (yC X101 (Q 8) rfl rfl z_)) ?_
   refine yO (castY X101 hx hZ hown (W 421) e101 (Ins.self E2) rfl rfl (Q 9).2) ?_
   intro T102 X102 e102
   refine yA (fun _ z_ => XS.astoreN X102.here hx rfl (Q 10).2 rfl rfl rfl z_) ?_
   refine yO (getS2 X102 hx hZ hown (host := "") (Or.inl (W 21)) Via.refl e102 (Sc.ext O0.2) rfl (Q 11).2) ?_
   intro T103 X103 e103
   refine yA (fun _ z_ => qA X103 (Q 12) rfl ((if0 _ _).trans (feq hzc).1) (yC X103 (Q 13) rfl rfl z_)) ?_
   refine yO (yV X103 hZ hown (W 33) e103 F2 rfl rfl (Q 14)) ?_
   intro T104 X104 e104
   refine yA (fun _ z_ => yC X104 (Q 15) rfl rfl z_) ?_
   refine yO (yV X104 hZ hown (W 33) e104 G2 rfl rfl (Q 16)) ?_
   intro T105 X105 e105
   refine yA (fun _ z_ => qH X105 (Q 17) rfl (teq rfl).2 (yC X105 (Q 18) rfl rfl z_)) ?_
   refine yO (yV X105 hZ hown (W 35) e105 F1 rfl rfl (Q 19)) ?_
   intro T106 X106 e106
   refine yA (fun _ z_ => yC X106 (Q 20) rfl rfl z_) ?_
   refine yG m 41 #[rv a1, rv a2, rv a2] [(.ref a2), (.ref t1)] ?_
   refine yO (yV X106 hZ hown (W 35) e106 G1 rfl rfl (Q 21)) ?_
   intro T107 X107 e107
   refine yL (qD X107 hZ (y := (⟨sN18, "equals", "([B[B)Z"⟩ : MethodName)) hown (W 422) (W 423) (W 63) (W 424) 0 (leW hw t1 t2 _ _ nn _ O0 hnn hin A1 A2) e107 (by decide) rfl (hM rfl) [(.ref t1), (.ref t2)] (rest := []) pd18 rfl rfl rfl rfl rfl (Q 22)) ?_
   rintro T108 _ _ h108 X108 e108 ⟨rfl, N108q, hq108⟩
   replace e108 := e108.trans hq108
   have N108 := Fr.app N0 N108q
   refine yA (fun _ z_ => qA X108 (Q 23) rfl ((if0 _ _).trans (feq (by decide)).1) (yH X108 (Q 24) (yT X108 51 55 rfl (Q 25) (by decide) z_))) ?_
   exact yW X108 hlk e108 hret (by decide) uN (Q 26) (by decide) ⟨rfl, N108, rfl⟩
def qX (cs : List Int32) (a : Nat) (c : Int32) : Prop := a < cs.length ∧ c = cs.getD a 0
instance (cs : List Int32) (a : Nat) (c : Int32) : Decidable (qX cs a c) := by unfold qX; infer_instance
def qR (cs : List Int32) (a : Nat) : Prop := qX cs a 10 ∨ (qX cs a 13 ∧ qX cs (a + 1) 10)
instance (cs : List Int32) (a : Nat) : Decidable (qR cs a) := by unfold qR; infer_instance
theorem o_ifT {P : Prop} [Decidable P] (h : ¬ (if P then (1 : Int32) else 0) = 0) : P := Decidable.byContradiction fun q => h (if_neg q)
theorem o_ifF {P : Prop} [Decidable P] (h : (if P then (1 : Int32) else 0) = 0) : ¬ P := fun q => by rw [if_pos q] at h; revert h; decide
theorem d23 : yX prog_4_method_9_code [(0, .aload_n 0, 1), (1, .getfield 28, 3), (4, .aload_n 0, 1), (5, .getfield 13, 3), (8, .invokevirtual 69, 3), (11, .if_icmp .ge 22, 3), (14, .iload_n 1, 1), (15, .aload_n 0, 1), (16, .getfield 13, 3), (19, .aload_n 0, 1), (20, .getfield 28, 3), (23, .invokevirtual 24, 3), (26, .if_icmp .ne 7, 3), (29, .iconst 1, 1), (30, .goto 4, 3), (34, .ireturn, 1), (33, .iconst 0, 1)] := by decide +kernel
theorem pd19 : parseMethodDescriptor "()I" = some ⟨[], some .int⟩ := by decide +kernel
theorem pd20 : parseMethodDescriptor "(I)C" = some ⟨[.int], some .char⟩ := by decide +kernel
theorem pd21 : plainName sN1 = true := by first | (simp [plainName, overriddenIn]; done) | decide +kernel
abbrev atWR : Room := { frames := 5, cells := 0, slots := 0, locals := 67 }
theorem atW (hw : yQ a0 Z) (a1 t1 : Nat) (cs : List Int32) (a : Nat) (cq : Int32) (O0 : Old Z n0 h0) (CS : uE Z) (FM : uQ Z) (UT : uB Z) (hk : cs.length ≤ 20) (ha : a ≤ 40) (E1 : Exa Z h0 a1 sN1) (F1 : Fld Z h0 a1 sN1 "m_text" sN9 (.ref t1)) (F2 : Fld Z h0 a1 sN1 "m_at" "I" (.int (ofNat a))) (S1 : qQ Z h0 t1 cs) :
 yZ l Z mN10 prog_4_method_9_code 2 (some .boolean) [] atWR #[(.ref a1), (.int cq)] h0 (fun v h L => v = some (.int (if qX cs a cq then 1 else 0)) ∧ Fr n0 L ∧ h = h0) := by
 refine yK (plainFor_of_name pd21) ?_
 intro p e s m below meth c T0 X0 hx hby hml hZ hown hnm hret hlk e0
 have hM := @qK _ _ hml
 have W := qC hw
 have Q := @yR p c _ _ _ hx hby d23
 have N0 := Fr.nil n0
 have zO := yM O0
 refine yP 0 rfl rfl ?_
 refine yG m 0 #[rv a1, iv cq] [] ?_
 refine yA (fun _ z_ => yC X0 (Q 0) rfl rfl z_) ?_
 refine yO (yV X0 hZ hown (W 73) e0 F2 rfl rfl (Q 1)) ?_
 intro T101 X101 e101
 refine yA (fun _ z_ => yC X101 (Q 2) rfl rfl z_) ?_
 refine yO (yV X101 hZ hown (W 43) e101 F1 rfl rfl (Q 3)) ?_
 intro T102 X102 e102
 refine yL (qZ X102 hZ (y := mN5) hown (W 80) (W 81) (W 83) (W 82) (W 84) (W 10) 1 (sln hw t1 cs O0 CS hk S1) e102 S1.1 (by decide) rfl (hM rfl) [] (rest := [(.int (ofNat a))]) pd19 rfl rfl rfl rfl rfl (Q 4)) ?_
 rintro T103 _ _ h103 X103 e103 ⟨rfl, N103q, hq103⟩
 replace e103 := e103.trans hq103
 have N103 := Fr.app N0 N103q
 by_cases c104 : (ofNat a) < (ofNat cs.length)
 · refine yA (fun _ z_ => qH X103 (Q 5) rfl (tlt c104).2.1 z_) ?_
   have hal : a < cs.length := (qP (by omega) (by omega)).mp c104
   refine yA (fun _ z_ => yE X103 (Q 6) rfl (yC X103 (Q 7) rfl rfl z_)) ?_
   refine yO (yV X103 hZ hown (W 43) e103 F1 rfl rfl (Q 8)) ?_
   intro T105 X105 e105
   refine yA (fun _ z_ => yC X105 (Q 9) rfl rfl z_) ?_
   refine yO (yV X105 hZ hown (W 73) e105 F2 rfl rfl (Q 10)) ?_
   intro T106 X106 e106
   refine yG m 23 #[rv a1, iv cq] [(.int (ofNat a)), (.ref t1), (.int cq)] ?_
   refine yL (qZ X106 hZ (y := mN8) hown (W 51) (W 52) (W 54) (W 53) (W 55) (W 10) 1 (chA hw t1 cs a O0 CS FM UT hal hk S1) e106 S1.1 (by decide) rfl (hM rfl) [(.int (ofNat a))] (rest := [(.int cq)]) pd20 rfl rfl rfl rfl rfl (Q 11)) ?_
   rintro T107 _ _ h107 X107 e107 ⟨rfl, N107q, hq107⟩
   replace e107 := e107.trans hq107
   have N107 := Fr.app N103 N107q
   by_cases c108 : cq = (cs.getD a 0)
   · refine yA (fun _ z_ => qH X107 (Q 12) rfl (teq c108).2 (yH X107 (Q 13) (yT X107 30 34 rfl (Q 14) (by decide) z_))) ?_
     exact yW X107 hlk e107 hret (by decide) uN (Q 15) (by decide) ⟨by rw [if_pos (show qX cs a cq from ⟨hal, c108⟩)] <;> rfl, N107, rfl⟩
   · refine yA (fun _ z_ => qG X107 26 33 rfl (Q 12) rfl (feq c108).2 (by decide) (yH X107 (Q 16) z_)) ?_
     exact yW X107 hlk e107 hret (by decide) uN (Q 15) (by decide) ⟨by rw [if_neg (show ¬ qX cs a cq from fun q => c108 q.2)] <;> rfl, N107, rfl⟩
 · refine yA (fun _ z_ => qG X103 11 33 rfl (Q 5) rfl (flt c104).2.1 (by decide) (yH X103 (Q 16) z_)) ?_
   exact yW X103 hlk e103 hret (by decide) uN (Q 15) (by decide) ⟨by rw [if_neg (show ¬ qX cs a cq from fun q => c104 ((qP (by omega) (by omega)).mpr q.1))] <;> rfl, N103, rfl⟩
theorem d22 : yX prog_4_method_8_code [(0, .aload_n 0, 1), (1, .bipush 10, 2), (3, .invokevirtual 83, 3), (6, .ifCond .ne 46, 3), (9, .aload_n 0, 1), (10, .bipush 13, 2), (12, .invokevirtual 83, 3), (15, .ifCond .eq 41, 3), (56, .iconst 0, 1), (57, .ireturn, 1), (18, .aload_n 0, 1), (19, .getfield 28, 3), (22, .iconst 1, 1), (23, .iadd, 1), (24, .aload_n 0, 1), (25, .getfield 13, 3), (28, .invokevirtual 69, 3), (31, .if_icmp .ge 25, 3), (34, .bipush 10, 2), (36, .aload_n 0, 1), (37, .getfield 13, 3), (40, .aload_n 0, 1), (41, .getfield 28, 3), (44, .iconst 1, 1), (45, .iadd, 1), (46, .invokevirtual 24, 3), (49, .if_icmp .ne 7, 3), (52, .iconst 1, 1), (53, .goto 4, 3)] := by decide +kernel
theorem pd22 : parseMethodDescriptor "(C)Z" = some ⟨[.char], some .boolean⟩ := by decide +kernel
abbrev aeWR : Room := { frames := 6, cells := 0, slots := 0, locals := 80 }
theorem aeW (hw : yQ a0 Z) (a1 t1 : Nat) (cs : List Int32) (a : Nat) (O0 : Old Z n0 h0) (CS : uE Z) (FM : uQ Z) (UT : uB Z) (hk : cs.length ≤ 20) (ha : a ≤ 40) (E1 : Exa Z h0 a1 sN1) (F1 : Fld Z h0 a1 sN1 "m_text" sN9 (.ref t1)) (F2 : Fld Z h0 a1 sN1 "m_at" "I" (.int (ofNat a))) (S1 : qQ Z h0 t1 cs) :
 yZ l Z mN20 prog_4_method_8_code 1 (some .boolean) [] aeWR #[(.ref a1)] h0 (fun v h L => v = some (.int (if qR cs a then 1 else 0)) ∧ Fr n0 L ∧ h = h0) := by
 refine yK (plainFor_of_name pd21) ?_
 intro p e s m below meth c T0 X0 hx hby hml hZ hown hnm hret hlk e0
 have hM := @qK _ _ hml
 have W := qC hw
 have Q := @yR p c _ _ _ hx hby d22
 have N0 := Fr.nil n0
 have zO := yM O0
 refine yP 0 rfl rfl ?_
 refine yG m 0 #[rv a1] [] ?_
 refine yA (fun _ z_ => yC X0 (Q 0) rfl rfl (yY X0 (Q 1) z_)) ?_
 refine yL (o_cP X0 hZ (y := mN10) hown (W 122) (W 123) (o_NIi (W 6)) (W 124) (W 125) (W 7) 0 (atW hw a1 t1 cs a (10 : Int32) O0 CS FM UT hk (by omega) E1 F1 F2 S1) e0 E1 (by decide) rfl (hM rfl) [(.int (10 : Int32))] (rest := []) pd22 rfl rfl rfl rfl rfl (Q 2)) ?_
 rintro T101 _ _ h101 X101 e101 ⟨rfl, N101q, hq101⟩
 replace e101 := e101.trans hq101
 have N101 := Fr.app N0 N101q
 by_cases c102 : (if qX cs a (10 : Int32) then (1 : Int32) else 0) = (0 : Int32)
 · refine yA (fun _ z_ => qA X101 (Q 3) rfl ((if0 _ _).trans (teq c102).2) (yC X101 (Q 4) rfl rfl (yY X101 (Q 5) z_))) ?_
   refine yL (o_cP X101 hZ (y := mN10) hown (W 122) (W 123) (o_NIi (W 6)) (W 124) (W 125) (W 7) 0 (atW hw a1 t1 cs a (13 : Int32) O0 CS FM UT hk (by omega) E1 F1 F2 S1) e101 E1 (by decide) rfl (hM rfl) [(.int (13 : Int32))] (rest := []) pd22 rfl rfl rfl rfl rfl (Q 6)) ?_
   rintro T103 _ _ h103 X103 e103 ⟨rfl, N103q, hq103⟩
   replace e103 := e103.trans hq103
   have N103 := Fr.app N101 N103q
   by_cases c104 : (if qX cs a (13 : Int32) then (1 : Int32) else 0) = (0 : Int32)
   · refine yA (fun _ z_ => qF X103 15 56 rfl (Q 7) rfl ((if0 _ _).trans (teq c104).1) (by decide) (yH X103 (Q 8) z_)) ?_
     exact yW X103 hlk e103 hret (by decide) uN (Q 9) (by decide) ⟨by rw [if_neg (show ¬ qR cs a from fun q => q.elim (o_ifF c102) (fun q => o_ifF c104 q.1))] <;> rfl, N103, rfl⟩
   · refine yA (fun _ z_ => qA X103 (Q 7) rfl ((if0 _ _).trans (feq c104).1) (yC X103 (Q 10) rfl rfl z_)) ?_
     refine yO (yV X103 hZ hown (W 73) e103 F2 rfl rfl (Q 11)) ?_
     intro T105 X105 e105
     refine yA (fun _ z_ => yH X105 (Q 12) (XS.iadd X105.here hx rfl (Q 13).2 rfl z_)) ?_
     refine yG m 24 #[rv a1] [(.int ((ofNat a) + (1 : Int32)))] ?_
     rw [show ofNat a + (1 : Int32) = ofNat (a + 1) from uD (b := 1) (by omega)]
     refine yA (fun _ z_ => yC X105 (Q 14) rfl rfl z_) ?_
     refine yO (yV X105 hZ hown (W 43) e105 F1 rfl rfl (Q 15)) ?_
     intro T106 X106 e106
     refine yL (qZ X106 hZ (y := mN5) hown (W 80) (W 81) (W 83) (W 82) (W 84) (W 10) 1 (sln hw t1 cs O0 CS hk S1) e106 S1.1 (by decide) rfl (hM rfl) [] (rest := [(.int (ofNat (a + 1)))]) pd19 rfl rfl rfl rfl rfl (Q 16)) ?_
     rintro T107 _ _ h107 X107 e107 ⟨rfl, N107q, hq107⟩
     replace e107 := e107.trans hq107
     have N107 := Fr.app N103 N107q
     by_cases c108 : (ofNat (a + 1)) < (ofNat cs.length)
     · refine yA (fun _ z_ => qH X107 (Q 17) rfl (tlt c108).2.1 z_) ?_
       have hal : a + 1 < cs.length := (qP (by omega) (by omega)).mp c108
       refine yA (fun _ z_ => yY X107 (Q 18) (yC X107 (Q 19) rfl rfl z_)) ?_
       refine yO (yV X107 hZ hown (W 43) e107 F1 rfl rfl (Q 20)) ?_
       intro T109 X109 e109
       refine yA (fun _ z_ => yC X109 (Q 21) rfl rfl z_) ?_
       refine yO (yV X109 hZ hown (W 73) e109 F2 rfl rfl (Q 22)) ?_
       intro T110 X110 e110
       refine yA (fun _ z_ => yH X110 (Q 23) (XS.iadd X110.here hx rfl (Q 24).2 rfl z_)) ?_
       refine yG m 46 #[rv a1] [(.int ((ofNat a) + (1 : Int32))), (.ref t1), (.int (10 : Int32))] ?_
       rw [show ofNat a + (1 : Int32) = ofNat (a + 1) from uD (b := 1) (by omega)]
       refine yL (qZ X110 hZ (y := mN8) hown (W 51) (W 52) (W 54) (W 53) (W 55) (W 10) 1 (chA hw t1 cs (a + 1) O0 CS FM UT hal hk S1) e110 S1.1 (by decide) rfl (hM rfl) [(.int (ofNat (a + 1)))] (rest := [(.int (10 : Int32))]) pd20 rfl rfl rfl rfl rfl (Q 25)) ?_
       rintro T111 _ _ h111 X111 e111 ⟨rfl, N111q, hq111⟩
       replace e111 := e111.trans hq111
       have N111 := Fr.app N107 N111q
       by_cases c112 : (10 : Int32) = (cs.getD (a + 1) 0)
       · refine yA (fun _ z_ => qH X111 (Q 26) rfl (teq c112).2 (yH X111 (Q 27) (yT X111 53 57 rfl (Q 28) (by decide) z_))) ?_
         exact yW X111 hlk e111 hret (by decide) uN (Q 9) (by decide) ⟨by rw [if_pos (show qR cs a from Or.inr ⟨o_ifT c104, hal, c112⟩)] <;> rfl, N111, rfl⟩
       · refine yA (fun _ z_ => qG X111 49 56 rfl (Q 26) rfl (feq c112).2 (by decide) (yH X111 (Q 8) z_)) ?_
         exact yW X111 hlk e111 hret (by decide) uN (Q 9) (by decide) ⟨by rw [if_neg (show ¬ qR cs a from fun q => q.elim (o_ifF c102) (fun q => c112 q.2.2))] <;> rfl, N111, rfl⟩
     · refine yA (fun _ z_ => qG X107 31 56 rfl (Q 17) rfl (flt c108).2.1 (by decide) (yH X107 (Q 8) z_)) ?_
       exact yW X107 hlk e107 hret (by decide) uN (Q 9) (by decide) ⟨by rw [if_neg (show ¬ qR cs a from fun q => q.elim (o_ifF c102) (fun q => c108 ((qP (by omega) (by omega)).mpr q.2.1)))] <;> rfl, N107, rfl⟩
 · refine yA (fun _ z_ => qF X101 6 52 rfl (Q 3) rfl ((if0 _ _).trans (feq c102).2) (by decide) (yH X101 (Q 27) (yT X101 53 57 rfl (Q 28) (by decide) z_))) ?_
   exact yW X101 hlk e101 hret (by decide) uN (Q 9) (by decide) ⟨by rw [if_pos (show qR cs a from Or.inl (o_ifT c102))] <;> rfl, N101, rfl⟩
theorem d21 : yX prog_4_method_7_code [(0, .aload_n 0, 1), (1, .invokevirtual 97, 3), (4, .ifCond .ne 5, 3), (9, .aload_n 0, 1), (10, .dup, 1), (11, .getfield 28, 3), (14, .aload_n 0, 1), (15, .bipush 13, 2), (17, .invokevirtual 83, 3), (20, .ifCond .eq 7, 3), (27, .iconst 1, 1), (28, .iadd, 1), (29, .putfield 28, 3), (32, .aload_n 0, 1), (33, .dup, 1), (34, .getfield 7, 3), (37, .iconst 1, 1), (38, .iadd, 1), (39, .putfield 7, 3), (42, .iconst 1, 1), (43, .ireturn, 1), (23, .iconst 2, 1), (24, .goto 4, 3), (7, .iconst 0, 1), (8, .ireturn, 1)] := by decide +kernel
abbrev eo1R : Room := { frames := 7, cells := 0, slots := 0, locals := 92 }
theorem eo1 (hw : yQ a0 Z) (a1 t1 : Nat) (cs : List Int32) (a ln : Nat) (O0 : Old Z n0 h0) (CS : uE Z) (FM : uQ Z) (UT : uB Z) (hk : cs.length ≤ 20) (ha : a ≤ 20) (hln : ln ≤ 1000) (g1 : n0 ≤ a1) (ht : t1 ≠ a1) (E1 : Exa Z h0 a1 sN1) (F1 : Fld Z h0 a1 sN1 "m_text" sN9 (.ref t1)) (F2 : Fld Z h0 a1 sN1 "m_at" "I" (.int (ofNat a))) (F3 : Fld Z h0 a1 sN1 "m_line" "I" (.int (ofNat ln))) (S1 : qQ Z h0 t1 cs) (he : qR cs a) :
 yZ l Z mN16 prog_4_method_7_code 1 (some .boolean) [] eo1R #[(.ref a1)] h0 (fun v h L => v = some (.int 1) ∧ Fr n0 L ∧ Keep h0 h [a1] ∧ Exa Z h a1 sN1 ∧ Fld Z h a1 sN1 "m_text" sN9 (.ref t1) ∧ Fld Z h a1 sN1 "m_at" "I" (.int (ofNat (a + if qX cs a 13 then 2 else 1))) ∧ Fld Z h a1 sN1 "m_line" "I" (.int (ofNat (ln + 1)))) := by
 refine yK (plainFor_of_name pd21) ?_
 intro p e s m below meth c T0 X0 hx hby hml hZ hown hnm hret hlk e0
 have hM := @qK _ _ hml
 have W := qC hw
 have Q := @yR p c _ _ _ hx hby d21
 have N0 := Fr.nil n0
 have zO := yM O0
 refine yP 0 rfl rfl ?_
 refine yG m 0 #[rv a1] [] ?_
 refine yA (fun _ z_ => yC X0 (Q 0) rfl rfl z_) ?_
 refine yL (o_cP X0 hZ (y := mN20) hown (W 118) (W 119) (o_NIi (W 6)) (W 120) (W 121) (W 7) 0 (aeW hw a1 t1 cs a O0 CS FM UT hk (by omega) E1 F1 F2 S1) e0 E1 (by decide) rfl (hM rfl) [] (rest := []) pd16 rfl rfl rfl rfl rfl (Q 1)) ?_
 rintro T101 _ _ h101 X101 e101 ⟨rfl, N101q, hq101⟩
 replace e101 := e101.trans hq101
 have N101 := Fr.app N0 N101q
 refine yA (fun _ z_ => qF X101 4 9 rfl (Q 2) rfl ((if0 _ _).trans (feq (fun q => o_ifF q he)).2) (by decide) (yC X101 (Q 3) rfl rfl (qJ X101 (Q 4) rfl rfl z_))) ?_
 refine yO (yV X101 hZ hown (W 73) e101 F2 rfl rfl (Q 5)) ?_
 intro T102 X102 e102
 refine yA (fun _ z_ => yC X102 (Q 6) rfl rfl (yY X102 (Q 7) z_)) ?_
 refine yL (o_cP X102 hZ (y := mN10) hown (W 122) (W 123) (o_NIi (W 6)) (W 124) (W 125) (W 7) 2 (atW hw a1 t1 cs a (13 : Int32) O0 CS FM UT hk (by omega) E1 F1 F2 S1) e102 E1 (by decide) rfl (hM rfl) [(.int (13 : Int32))] (rest := [(.int (ofNat a)), (.ref a1)]) pd22 rfl rfl rfl rfl rfl (Q 8)) ?_
 rintro T103 _ _ h103 X103 e103 ⟨rfl, N103q, hq103⟩
 replace e103 := e103.trans hq103
 have N103 := Fr.app N101 N103q
 by_cases c104 : (if qX cs a (13 : Int32) then (1 : Int32) else 0) = (0 : Int32)
 · refine yA (fun _ z_ => qF X103 20 27 rfl (Q 9) rfl ((if0 _ _).trans (teq c104).1) (by decide) (yH X103 (Q 10) (XS.iadd X103.here hx rfl (Q 11).2 rfl z_))) ?_
   refine yG m 29 #[rv a1] [(.int ((ofNat a) + (1 : Int32))), (.ref a1)] ?_
   rw [show ((ofNat a) + (1 : Int32)) = ofNat (a + if qX cs a 13 then 2 else 1) from by rw [if_neg (o_ifF c104)]; exact uD (b := 1) (by omega)]
   refine qL (putF X103 hx hZ hown (host := "") (Or.inl (W 73)) Via.refl e103 F2 E1 (Or.inl (W 74)) (W 6) (ty := .int) (by decide) rfl rfl rfl rfl (Q 12).2) ?_
   intro T105 h105 X105 e105 W105
   have F105 := F2.same W105
   have K105 := Keep.of_wr W105
   have N105 := Fr.snoc X105 N103 (by omega : n0 ≤ a1)
   have zK105 := K105.1
   refine yA (fun _ z_ => yC X105 (Q 13) rfl rfl (qJ X105 (Q 14) rfl rfl z_)) ?_
   have f106 := (F3.other W105 (yS (Or.inl (W 42)) (Or.inl (W 74)) (by decide)))
   refine yO (yV X105 hZ hown (W 41) e105 f106 rfl rfl (Q 15)) ?_
   intro T107 X107 e107
   refine yA (fun _ z_ => yH X107 (Q 16) (XS.iadd X107.here hx rfl (Q 17).2 rfl z_)) ?_
   refine yG m 39 #[rv a1] [(.int ((ofNat ln) + (1 : Int32))), (.ref a1)] ?_
   rw [show ofNat ln + (1 : Int32) = ofNat (ln + 1) from uD (b := 1) (by omega)]
   have f108 := (E1.keep K105)
   refine qL (putF X107 hx hZ hown (host := "") (Or.inl (W 41)) Via.refl e107 f106 f108 (Or.inl (W 42)) (W 6) (ty := .int) (by decide) rfl rfl rfl rfl (Q 18).2) ?_
   intro T109 h109 X109 e109 W109
   have F109 := f106.same W109
   have K109 := Keep.of_wr W109
   have N109 := Fr.snoc X109 N105 (by omega : n0 ≤ a1)
   have zK109 := K109.1
   refine yA (fun _ z_ => yH X109 (Q 19) z_) ?_
   have KK110 := yF (yF (Keep.refl h0 [a1]) K105) K109
   have f111 := (f108.keep K109)
   have f112 := ((F1.other W105 (yS (Or.inr (W 44)) (Or.inl (W 74)) (by decide))).other W109 (yS (Or.inr (W 44)) (Or.inl (W 42)) (by decide)))
   have f113 := (F105.other W109 (yS (Or.inl (W 74)) (Or.inl (W 42)) (by decide)))
   exact yW X109 hlk e109 hret (by decide) uN (Q 20) (by decide) ⟨rfl, N109, KK110, f111, f112, f113, F109⟩
 · refine yA (fun _ z_ => qA X103 (Q 9) rfl ((if0 _ _).trans (feq c104).1) (yH X103 (Q 21) (yT X103 24 28 rfl (Q 22) (by decide) (XS.iadd X103.here hx rfl (Q 11).2 rfl z_)))) ?_
   refine yG m 29 #[rv a1] [(.int ((ofNat a) + (2 : Int32))), (.ref a1)] ?_
   rw [show ((ofNat a) + (2 : Int32)) = ofNat (a + if qX cs a 13 then 2 else 1) from by rw [if_pos (o_ifT c104)]; exact uD (b := 2) (by omega)]
   refine qL (putF X103 hx hZ hown (host := "") (Or.inl (W 73)) Via.refl e103 F2 E1 (Or.inl (W 74)) (W 6) (ty := .int) (by decide) rfl rfl rfl rfl (Q 12).2) ?_
   intro T114 h114 X114 e114 W114
   have F114 := F2.same W114
   have K114 := Keep.of_wr W114
   have N114 := Fr.snoc X114 N103 (by omega : n0 ≤ a1)
   have zK114 := K114.1
   refine yA (fun _ z_ => yC X114 (Q 13) rfl rfl (qJ X114 (Q 14) rfl rfl z_)) ?_
   have f115 := (F3.other W114 (yS (Or.inl (W 42)) (Or.inl (W 74)) (by decide)))
   refine yO (yV X114 hZ hown (W 41) e114 f115 rfl rfl (Q 15)) ?_
   intro T116 X116 e116
   refine yA (fun _ z_ => yH X116 (Q 16) (XS.iadd X116.here hx rfl (Q 17).2 rfl z_)) ?_
   refine yG m 39 #[rv a1] [(.int ((ofNat ln) + (1 : Int32))), (.ref a1)] ?_
   rw [show ofNat ln + (1 : Int32) = ofNat (ln + 1) from uD (b := 1) (by omega)]
   have f117 := (E1.keep K114)
   refine qL (putF X116 hx hZ hown (host := "") (Or.inl (W 41)) Via.refl e116 f115 f117 (Or.inl (W 42)) (W 6) (ty := .int) (by decide) rfl rfl rfl rfl (Q 18).2) ?_
   intro T118 h118 X118 e118 W118
   have F118 := f115.same W118
   have K118 := Keep.of_wr W118
   have N118 := Fr.snoc X118 N114 (by omega : n0 ≤ a1)
   have zK118 := K118.1
   refine yA (fun _ z_ => yH X118 (Q 19) z_) ?_
   have KK119 := yF (yF (Keep.refl h0 [a1]) K114) K118
   have f120 := (f117.keep K118)
   have f121 := ((F1.other W114 (yS (Or.inr (W 44)) (Or.inl (W 74)) (by decide))).other W118 (yS (Or.inr (W 44)) (Or.inl (W 42)) (by decide)))
   have f122 := (F114.other W118 (yS (Or.inl (W 74)) (Or.inl (W 42)) (by decide)))
   exact yW X118 hlk e118 hret (by decide) uN (Q 20) (by decide) ⟨rfl, N118, KK119, f120, f121, f122, F118⟩
abbrev eo0R : Room := { frames := 7, cells := 0, slots := 0, locals := 92 }
theorem eo0 (hw : yQ a0 Z) (a1 t1 : Nat) (cs : List Int32) (a ln : Nat) (O0 : Old Z n0 h0) (CS : uE Z) (FM : uQ Z) (UT : uB Z) (hk : cs.length ≤ 20) (ha : a ≤ 20) (hln : ln ≤ 1000) (g1 : n0 ≤ a1) (ht : t1 ≠ a1) (E1 : Exa Z h0 a1 sN1) (F1 : Fld Z h0 a1 sN1 "m_text" sN9 (.ref t1)) (F2 : Fld Z h0 a1 sN1 "m_at" "I" (.int (ofNat a))) (F3 : Fld Z h0 a1 sN1 "m_line" "I" (.int (ofNat ln))) (S1 : qQ Z h0 t1 cs) (he : ¬ qR cs a) :
 yZ l Z mN16 prog_4_method_7_code 1 (some .boolean) [] eo0R #[(.ref a1)] h0 (fun v h L => v = some (.int 0) ∧ Fr n0 L ∧ h = h0) := by
 refine yK (plainFor_of_name pd21) ?_
 intro p e s m below meth c T0 X0 hx hby hml hZ hown hnm hret hlk e0
 have hM := @qK _ _ hml
 have W := qC hw
 have Q := @yR p c _ _ _ hx hby d21
 have N0 := Fr.nil n0
 have zO := yM O0
 refine yP 0 rfl rfl ?_
 refine yG m 0 #[rv a1] [] ?_
 refine yA (fun _ z_ => yC X0 (Q 0) rfl rfl z_) ?_
 refine yL (o_cP X0 hZ (y := mN20) hown (W 118) (W 119) (o_NIi (W 6)) (W 120) (W 121) (W 7) 0 (aeW hw a1 t1 cs a O0 CS FM UT hk (by omega) E1 F1 F2 S1) e0 E1 (by decide) rfl (hM rfl) [] (rest := []) pd16 rfl rfl rfl rfl rfl (Q 1)) ?_
 rintro T101 _ _ h101 X101 e101 ⟨rfl, N101q, hq101⟩
 replace e101 := e101.trans hq101
 have N101 := Fr.app N0 N101q
 refine yA (fun _ z_ => qA X101 (Q 2) rfl ((if0 _ _).trans (teq (if_neg he)).2) (yH X101 (Q 23) z_)) ?_
 exact yW X101 hlk e101 hret (by decide) uN (Q 24) (by decide) ⟨rfl, N101, rfl⟩
theorem d8 : yX prog_4_method_1_code [(0, .aload_n 0, 1), (1, .invokespecial 1, 3), (4, .aload_n 0, 1), (5, .iconst 1, 1), (6, .putfield 7, 3), (9, .aload_n 0, 1), (10, .aload_n 1, 1), (11, .putfield 13, 3), (14, .aload_n 0, 1), (15, .aload_n 1, 1), (16, .invokevirtual 17, 3), (19, .ifCond .ne 17, 3), (22, .ldc 23, 2), (24, .aload_n 1, 1), (25, .iconst 0, 1), (26, .invokevirtual 24, 3), (29, .if_icmp .ne 7, 3), (32, .iconst 1, 1), (33, .goto 4, 3), (37, .putfield 28, 3), (40, .return_, 1), (36, .iconst 0, 1)] := by decide +kernel
abbrev ciWR : Room := { frames := 5, cells := 0, slots := 0, locals := 68 }
theorem ciW (hw : yQ a0 Z) (a1 t1 : Nat) (cs : List Int32) (u1 u2 u3 : Value) (O0 : Old Z n0 h0) (CS : uE Z) (FM : uQ Z) (UT : uB Z) (hk : cs.length ≤ 20) (h00 : 0 < cs.length) (g1 : n0 ≤ a1) (ht : t1 ≠ a1) (E1 : Exa Z h0 a1 sN1) (F1 : Fld Z h0 a1 sN1 "m_text" sN9 u1) (F2 : Fld Z h0 a1 sN1 "m_at" "I" u2) (F3 : Fld Z h0 a1 sN1 "m_line" "I" u3) (S1 : qQ Z h0 t1 cs) (SK : ∀ h' : Heap, Keep h0 h' [a1] → qQ Z h' t1 cs) :
 yZ l Z (⟨sN1, "<init>", "(Ljava/lang/String;)V"⟩ : MethodName) prog_4_method_1_code 2 none [] ciWR #[(.ref a1), (.ref t1)] h0 (fun v h L => v = none ∧ Fr n0 L ∧ Keep h0 h [a1] ∧ Exa Z h a1 sN1 ∧ Fld Z h a1 sN1 "m_text" sN9 (.ref t1) ∧ Fld Z h a1 sN1 "m_at" "I" (.int (ofNat (if (65279 : Int32) = cs.getD 0 0 then 1 else 0))) ∧ Fld Z h a1 sN1 "m_line" "I" (.int (ofNat 1))) := by
 refine yK (plainFor_of_name pd21) ?_
 intro p e s m below meth c T0 X0 hx hby hml hZ hown hnm hret hlk e0
 have hM := @qK _ _ hml
 have W := qC hw
 have Q := @yR p c _ _ _ hx hby d8
 have N0 := Fr.nil n0
 have zO := yM O0
 refine yP 0 rfl rfl ?_
 refine yG m 0 #[rv a1, rv t1] [] ?_
 refine yA (fun _ z_ => yC X0 (Q 0) rfl rfl z_) ?_
 refine yO (initO X0 hx hZ hown (W 40) (W 19) (W 20) e0 rfl (hM rfl) rfl (Q 1).2 (by decide) (W := 0) (qE rfl rfl) (by decide)) ?_
 intro T101 X101 e101
 refine yA (fun _ z_ => yC X101 (Q 2) rfl rfl (yH X101 (Q 3) z_)) ?_
 refine qL (putF X101 hx hZ hown (host := "") (Or.inl (W 41)) Via.refl e101 F3 E1 (Or.inl (W 42)) (W 6) (ty := .int) (by decide) rfl rfl rfl rfl (Q 4).2) ?_
 intro T102 h102 X102 e102 W102
 have F102 := F3.same W102
 have K102 := Keep.of_wr W102
 have N102 := Fr.snoc X102 N0 (by omega : n0 ≤ a1)
 have zK102 := K102.1
 refine yA (fun _ z_ => yC X102 (Q 5) rfl rfl (yC X102 (Q 6) rfl rfl z_)) ?_
 have f103 := (F1.other W102 (yS (Or.inr (W 44)) (Or.inl (W 42)) (by decide)))
 have f104 := (E1.keep K102)
 refine qL (putF X102 hx hZ hown (host := "") (Or.inl (W 43)) Via.refl e102 f103 f104 (Or.inr ⟨(W 44), rfl, hnm⟩) (W 6) (ty := (.object sN2)) (by decide) rfl rfl rfl rfl (Q 7).2) ?_
 intro T105 h105 X105 e105 W105
 have F105 := f103.same W105
 have K105 := Keep.of_wr W105
 have N105 := Fr.snoc X105 N102 (by omega : n0 ≤ a1)
 have zK105 := K105.1
 refine yA (fun _ z_ => yC X105 (Q 8) rfl rfl (yC X105 (Q 9) rfl rfl z_)) ?_
 refine yG m 16 #[rv a1, rv t1] [(.ref t1), (.ref a1)] ?_
 have KK106 := yF (yF (Keep.refl h0 [a1]) K102) K105
 have S107 := SK _ KK106
 have O108 : Old Z n0 h105 := O0.keep KK106 (allS (by omega) all0)
 have f110 := (S1.1.keep KK106)
 refine yL (qZ X105 hZ (y := (⟨sN2, "isEmpty", "()Z"⟩ : MethodName)) hown (W 45) (W 46) (W 48) (W 47) (W 49) (W 10) 1 (sie hw t1 cs O108 hk h00 S107) e105 f110 (by decide) rfl (hM rfl) [] (rest := [(.ref a1)]) pd16 rfl rfl rfl rfl rfl (Q 10)) ?_
 rintro T109 _ _ h109 X109 e109 ⟨rfl, N109q, hq109⟩
 replace e109 := e109.trans hq109
 have N109 := Fr.app N105 N109q
 refine yA (fun _ z_ => qA X109 (Q 11) rfl ((if0 _ _).trans (teq (by decide)).2) z_) ?_
 refine yA (X109.ldcInt hx hown (mvT hZ (W 50)) (g := (mkF m 22 #[rv a1, rv t1] [(.ref a1)])) rfl (Q 12).2) ?_
 refine yA (fun _ z_ => yC X109 (Q 13) rfl rfl (yH X109 (Q 14) z_)) ?_
 refine yL (qZ X109 hZ (y := mN8) hown (W 51) (W 52) (W 54) (W 53) (W 55) (W 10) 2 (chA hw t1 cs 0 O108 CS FM UT h00 hk S107) e109 f110 (by decide) rfl (hM rfl) [(.int (0 : Int32))] (rest := [(.int (65279 : Int32)), (.ref a1)]) pd20 rfl rfl rfl rfl rfl (Q 15)) ?_
 rintro T111 _ _ h111 X111 e111 ⟨rfl, N111q, hq111⟩
 replace e111 := e111.trans hq111
 have N111 := Fr.app N109 N111q
 by_cases c112 : (65279 : Int32) = (cs.getD 0 0)
 · refine yA (fun _ z_ => qH X111 (Q 16) rfl (teq c112).2 (yH X111 (Q 17) (yT X111 33 37 rfl (Q 18) (by decide) z_))) ?_
   have f113 := ((F2.other W102 (yS (Or.inl (W 74)) (Or.inl (W 42)) (by decide))).other W105 (yS (Or.inl (W 74)) (Or.inr (W 44)) (by decide)))
   have f114 := (f104.keep K105)
   refine qL (putF X111 hx hZ hown (host := "") (Or.inl (W 73)) Via.refl e111 f113 f114 (Or.inl (W 74)) (W 6) (ty := .int) (by decide) rfl rfl rfl rfl (Q 19).2) ?_
   intro T115 h115 X115 e115 W115
   have F115 := f113.same W115
   have K115 := Keep.of_wr W115
   have N115 := Fr.snoc X115 N111 (by omega : n0 ≤ a1)
   have zK115 := K115.1
   have f116 := (F105.other W115 (yS (Or.inr (W 44)) (Or.inl (W 74)) (by decide)))
   have KK117 := yF (yF (Keep.refl h102 [a1]) K105) K115
   have f118 := ((F102.other W105 (yS (Or.inl (W 42)) (Or.inr (W 44)) (by decide))).other W115 (yS (Or.inl (W 42)) (Or.inl (W 74)) (by decide)))
   have KK119 := yF (yF (yF (Keep.refl h0 [a1]) K102) K105) K115
   have f120 := (f114.keep K115)
   exact uG X115 hlk e115 hret (Q 20) (by decide) ⟨rfl, N115, KK119, f120, f116, (by rw [if_pos c112]; exact F115), f118⟩
 · refine yA (fun _ z_ => qG X111 29 36 rfl (Q 16) rfl (feq c112).2 (by decide) (yH X111 (Q 21) z_)) ?_
   have f121 := ((F2.other W102 (yS (Or.inl (W 74)) (Or.inl (W 42)) (by decide))).other W105 (yS (Or.inl (W 74)) (Or.inr (W 44)) (by decide)))
   have f122 := (f104.keep K105)
   refine qL (putF X111 hx hZ hown (host := "") (Or.inl (W 73)) Via.refl e111 f121 f122 (Or.inl (W 74)) (W 6) (ty := .int) (by decide) rfl rfl rfl rfl (Q 19).2) ?_
   intro T123 h123 X123 e123 W123
   have F123 := f121.same W123
   have K123 := Keep.of_wr W123
   have N123 := Fr.snoc X123 N111 (by omega : n0 ≤ a1)
   have zK123 := K123.1
   have f124 := (F105.other W123 (yS (Or.inr (W 44)) (Or.inl (W 74)) (by decide)))
   have KK125 := yF (yF (Keep.refl h102 [a1]) K105) K123
   have f126 := ((F102.other W105 (yS (Or.inl (W 42)) (Or.inr (W 44)) (by decide))).other W123 (yS (Or.inl (W 42)) (Or.inl (W 74)) (by decide)))
   have KK127 := yF (yF (yF (Keep.refl h0 [a1]) K102) K105) K123
   have f128 := (f122.keep K123)
   exact uG X123 hlk e123 hret (Q 20) (by decide) ⟨rfl, N123, KK127, f128, f124, (by rw [if_neg c112]; exact F123), f126⟩
theorem d54 : yX jdk_29_method_69_code [(0, .iload_n 0, 1), (1, .iload_n 1, 1), (2, .if_icmp .gt 7, 3), (9, .iload_n 1, 1), (10, .ireturn, 1), (5, .iload_n 0, 1), (6, .goto 4, 3)] := by decide +kernel
abbrev mnWR : Room := { frames := 0, cells := 0, slots := 0, locals := 0 }
theorem mnW (hw : yQ a0 Z) (p1 p2 : Int32) (O0 : Old Z n0 h0)  :
 yZ l Z mN45 jdk_29_method_69_code 2 (some .int) [] mnWR #[(.int p1), (.int p2)] h0 (fun v h L => v = some (.int (if p2 < p1 then p2 else p1)) ∧ Fr n0 L ∧ h = h0) := by
 refine yK (Jvm.Free.JP.mathPlain rfl (by decide +kernel)) ?_
 intro p e s m below meth c T0 X0 hx hby hml hZ hown hnm hret hlk e0
 have W := qC hw
 have Q := @yR p c _ _ _ hx hby d54
 have N0 := Fr.nil n0
 have zO := yM O0
 refine yP 0 rfl rfl ?_
 refine yG m 0 #[iv p1, iv p2] [] ?_
 refine yA (fun _ z_ => yE X0 (Q 0) rfl (yE X0 (Q 1) rfl z_)) ?_
 by_cases c101 : p2 < p1
 · refine yA (fun _ z_ => qG X0 2 9 rfl (Q 2) rfl (tlt c101).2.2.1 (by decide) (yE X0 (Q 3) rfl z_)) ?_
   exact yW X0 hlk e0 hret rfl o_iI (Q 4) (by decide) ⟨by rw [if_pos c101] <;> rfl, N0, rfl⟩
 · refine yA (fun _ z_ => qH X0 (Q 2) rfl (flt c101).2.2.1 (yE X0 (Q 5) rfl (yT X0 6 10 rfl (Q 6) (by decide) z_))) ?_
   exact yW X0 hlk e0 hret rfl o_iI (Q 4) (by decide) ⟨by rw [if_neg c101] <;> rfl, N0, rfl⟩
theorem d53 : yX jdk_65_method_131_code [(0, .iload_n 1, 1), (1, .iload_n 0, 1), (2, .if_icmp .ge 35, 3), (37, .return_, 1)] := by decide +kernel
theorem pd23 : plainName sN21 = true := by first | (simp [plainName, overriddenIn]; done) | decide +kernel
abbrev clWR : Room := { frames := 0, cells := 0, slots := 0, locals := 0 }
theorem clW (hw : yQ a0 Z) (p1 p2 : Int32) (O0 : Old Z n0 h0) (hle : ¬ p2 < p1) :
 yZ l Z (⟨sN21, "checkLength", "(II)V"⟩ : MethodName) jdk_65_method_131_code 2 none [] clWR #[(.int p1), (.int p2)] h0 (fun v h L => v = none ∧ Fr n0 L ∧ h = h0) := by
 refine yK (plainFor_of_name pd23) ?_
 intro p e s m below meth c T0 X0 hx hby hml hZ hown hnm hret hlk e0
 have W := qC hw
 have Q := @yR p c _ _ _ hx hby d53
 have N0 := Fr.nil n0
 have zO := yM O0
 refine yP 0 rfl rfl ?_
 refine yG m 0 #[iv p1, iv p2] [] ?_
 refine yA (fun _ z_ => yE X0 (Q 0) rfl (yE X0 (Q 1) rfl (qG X0 2 37 rfl (Q 2) rfl (flt hle).2.1 (by decide) z_))) ?_
 refine yG m 37 #[iv p1, iv p2] [] ?_
 exact uG X0 hlk e0 hret (Q 3) (by decide) ⟨rfl, N0, rfl⟩
theorem o_cpy {vs : List Value} {dv : Value} {i j m : Nat} (hi : i ≤ j) (hj : j ≤ vs.length) : ∀ x, ((vs.drop i).take (j - i)).getD x (Value.int 0) = ((List.replicate m (Value.int 0)).take 0 ++ (List.range (j - i)).map (fun y => vs.getD (i + y) dv) ++ (List.replicate m (Value.int 0)).drop (0 + (j - i))).getD x (Value.int 0) := by
 intro x
 simp only [List.take_zero, List.nil_append]
 by_cases h : x < j - i
 · have h1 : i + x < vs.length := by omega
   simp [List.getD_eq_getElem?_getD, List.getElem?_append, h, List.getElem?_take, List.getElem?_drop, h1]
 · simp only [List.getD_eq_getElem?_getD, List.getElem?_append, List.length_map, List.length_range, h, if_false, List.getElem?_take, List.getElem?_drop, List.drop_replicate, List.getElem?_replicate]
   split <;> rfl
theorem d52 : yX jdk_65_method_133_code [(0, .iload_n 1, 1), (1, .iload_n 2, 1), (2, .invokestatic 343, 3), (5, .iload_n 2, 1), (6, .iload_n 1, 1), (7, .isub, 1), (8, .istore_n 3, 1), (9, .iload_n 3, 1), (10, .newarray .byte, 2), (12, .astore 4, 2), (14, .aload_n 0, 1), (15, .iload_n 1, 1), (16, .aload 4, 2), (18, .iconst 0, 1), (19, .aload_n 0, 1), (20, .arraylength, 1), (21, .iload_n 1, 1), (22, .isub, 1), (23, .iload_n 3, 1), (24, .invokestatic 304, 3), (27, .invokestatic 150, 3), (30, .aload 4, 2), (32, .areturn, 1)] := by decide +kernel
theorem pd24 : parseMethodDescriptor "(II)I" = some ⟨[.int, .int], some .int⟩ := by decide +kernel
abbrev crBR : Room := { frames := 1, cells := 1, slots := 40, locals := 40 }
theorem crB (hw : yQ a0 Z) (a1 : Nat) (k1 : ClassId) (vs : List Value) (i j k : Nat) (O0 : Old Z n0 h0) (hi : i ≤ j) (hj : j ≤ k) (hk : k ≤ 40) (hv : vs.length = k) (V1 : Arv Z h0 a1 k1 .byte (ofNat k) vs (.int 0)) :
 yZ l Z mN46 jdk_65_method_133_code 5 (some (.array .byte)) [] crBR #[(.ref a1), (.int (ofNat i)), (.int (ofNat j))] h0 (fun v h L => Fr n0 L ∧ ∃ (b : Nat) (kb : ClassId), v = some (.ref b) ∧ Keep h0 h [] ∧ h0.size ≤ b ∧ b < h.size ∧ Arv Z h b kb .byte (ofNat (j - i)) ((vs.drop i).take (j - i)) (.int 0)) := by
 refine yK (plainFor_of_name pd23) ?_
 intro p e s m below meth c T0 X0 hx hby hml hZ hown hnm hret hlk e0
 have hM := @qK _ _ hml
 have W := qC hw
 have Q := @yR p c _ _ _ hx hby d52
 have N0 := Fr.nil n0
 have zO := yM O0
 refine yP 2 rfl rfl ?_
 refine yG m 0 #[rv a1, iv (ofNat i), iv (ofNat j), .unset, .unset] [] ?_
 refine yA (fun _ z_ => yE X0 (Q 0) rfl (yE X0 (Q 1) rfl z_)) ?_
 refine yL (qD X0 hZ (y := (⟨sN21, "checkLength", "(II)V"⟩ : MethodName)) hown (W 308) (W 309) (W 303) (W 310) 0 (clW hw (ofNat i) (ofNat j) O0 (by rw [qP (by omega) (by omega)]; omega)) e0 (by decide) rfl (hM rfl) [(.int (ofNat i)), (.int (ofNat j))] (rest := []) pd12 rfl rfl rfl rfl rfl (Q 2)) ?_
 rintro T101 _ _ h101 X101 e101 ⟨rfl, N101q, hq101⟩
 replace e101 := e101.trans hq101
 have N101 := Fr.app N0 N101q
 refine yA (fun _ z_ => yE X101 (Q 3) rfl (yE X101 (Q 4) rfl (XS.isub X101.here hx rfl (Q 5).2 rfl z_))) ?_
 refine yG m 8 #[rv a1, iv (ofNat i), iv (ofNat j), .unset, .unset] [(.int ((ofNat j) - (ofNat i)))] ?_
 rw [o_nsub hi (by omega)]
 refine yA (fun _ z_ => XS.istoreN X101.here hx rfl (Q 6).2 rfl rfl (yE X101 (Q 7) rfl z_)) ?_
 have zo := newP X101 hx hZ (aty := .byte) (W 26) e101 (g := (mkF m 10 #[rv a1, iv (ofNat i), iv (ofNat j), iv (ofNat (j - i)), .unset] [(.int (ofNat (j - i)))])) rfl (Q 8).2 rfl (uK (by omega)) (cap := 40) (by rw [qU (by omega)]; omega) (by decide) (by decide) (by decide)
 obtain ⟨T102, h102, k102, X102, e102, E102, A102, st102⟩ := zo
 have zo : ∃ z, z = h0.size := ⟨_, rfl⟩
 obtain ⟨b102, g102⟩ := zo
 rw [← g102] at A102 st102
 have K102 : Keep h0 h102 [] := (Keep.refl _ _).ext E102
 have l102 : b102 < h102.size := A102.lt
 refine yA st102 ?_
 have zK102 := K102.1
 have V102 := Arv.new A102 (uK (by omega))
 have V102p := V102.pad (pad_rep [] (.int (0 : Int32)) 40)
 refine yA (fun _ z_ => XS.astore X102.here hx rfl (Q 9).2 rfl rfl rfl (yC X102 (Q 10) rfl rfl (yE X102 (Q 11) rfl (qN X102 (Q 12) rfl rfl (yH X102 (Q 13) (yC X102 (Q 14) rfl rfl z_)))))) ?_
 have f103 := (V1.keep K102 nin0)
 have zo := f103
 obtain ⟨c104, Ar104, q104, S104, M104, H104, U104⟩ := zo
 refine yA (X102.arraylength hx (by rw [e102]; exact Ar104.1) (State.isArrayOf_alike hZ.alike Ar104.2.1) (g := (mkF m 20 #[rv a1, iv (ofNat i), iv (ofNat j), iv (ofNat (j - i)), rv b102] [(.ref a1), (.int (0 : Int32)), (.ref b102), (.int (ofNat i)), (.ref a1)])) rfl rfl (Q 15).2) ?_
 rw [len_of S104 M104]
 refine yA (fun _ z_ => yE X102 (Q 16) rfl (XS.isub X102.here hx rfl (Q 17).2 rfl z_)) ?_
 refine yG m 23 #[rv a1, iv (ofNat i), iv (ofNat j), iv (ofNat (j - i)), rv b102] [(.int ((ofNat k) - (ofNat i))), (.int (0 : Int32)), (.ref b102), (.int (ofNat i)), (.ref a1)] ?_
 rw [o_nsub (Nat.le_trans hi hj) (by omega)]
 refine yA (fun _ z_ => yE X102 (Q 18) rfl z_) ?_
 have O105 : Old Z n0 h102 := O0.keep K102 all0
 refine yL (qD X102 hZ (y := mN45) hown (W 311) (W 312) (W 313) (W 314) 4 (mnW hw (ofNat (k - i)) (ofNat (j - i)) O105) e102 (by decide) rfl (hM rfl) [(.int (ofNat (k - i))), (.int (ofNat (j - i)))] (rest := [(.int (0 : Int32)), (.ref b102), (.int (ofNat i)), (.ref a1)]) pd24 rfl rfl rfl rfl rfl (Q 19)) ?_
 rintro T106 _ _ h106 X106 e106 ⟨rfl, N106q, hq106⟩
 replace e106 := e106.trans hq106
 have N106 := Fr.app N101 N106q
 refine yG m 27 #[rv a1, iv (ofNat i), iv (ofNat j), iv (ofNat (j - i)), rv b102] [(.int (if (ofNat (j - i)) < (ofNat (k - i)) then (ofNat (j - i)) else (ofNat (k - i)))), (.int (0 : Int32)), (.ref b102), (.int (ofNat i)), (.ref a1)] ?_
 rw [show (if ofNat (j - i) < ofNat (k - i) then ofNat (j - i) else ofNat (k - i)) = ofNat (j - i) from by
  split
  · rfl
  · rename_i q; rw [qP (by omega) (by omega)] at q; rw [show k - i = j - i from by omega]]
 have zo := cpA X106 hx hZ hown (W 315) (W 274) (W 272) (W 273) e106 f103 V102p (Or.inl ⟨rfl, rfl⟩) (uK (by omega)) (by decide) (uK (by omega)) (by rw [qU (by omega), qU (by omega), qU (by omega)]; omega) (by rw [qU (by omega)]; exact Nat.le_of_eq (Nat.zero_add _)) rfl (by rw [qU (by omega)]; show 0 + (j - i) ≤ 40; omega) N106 (by omega : n0 ≤ b102) (g := (mkF m 27 #[rv a1, iv (ofNat i), iv (ofNat j), iv (ofNat (j - i)), rv b102] [(.int (ofNat (j - i))), (.int (0 : Int32)), (.ref b102), (.int (ofNat i)), (.ref a1)])) rfl (hM rfl) rfl (Q 20).2 (by decide) (W := 0) (qE rfl rfl) (by decide)
 obtain ⟨T107, h107, L107, X107, e107, N107, K107, V107, st107⟩ := zo
 refine yA st107 ?_
 have zK107 := K107.1
 rw [qU (by omega : i < 2147483648), qU (by omega : j - i < 2147483648)] at V107
 have V107c := V107.pad (o_cpy hi (by omega))
 refine yA (fun _ z_ => qN X107 (Q 21) rfl rfl z_) ?_
 have KK108 := yN (yI (Keep.refl h0 []) K102) K107
 exact yW X107 hlk e107 hret rfl (uA rfl rfl) (Q 22) (by decide) ⟨N107, b102, _, rfl, KK108, by omega, V107c.lt, V107c⟩
theorem d51 : yX jdk_65_method_132_code [(0, .iload_n 1, 1), (1, .ifCond .ne 9, 3), (4, .iload_n 2, 1), (5, .aload_n 0, 1), (6, .arraylength, 1), (7, .if_icmp .eq 10, 3), (10, .aload_n 0, 1), (11, .iload_n 1, 1), (12, .iload_n 2, 1), (13, .invokestatic 339, 3), (16, .areturn, 1)] := by decide +kernel
theorem pd25 : parseMethodDescriptor "([BII)[B" = some ⟨[(.array .byte), .int, .int], some (.array .byte)⟩ := by decide +kernel
abbrev crWR : Room := { frames := 2, cells := 1, slots := 40, locals := 56 }
theorem crW (hw : yQ a0 Z) (a1 : Nat) (k1 : ClassId) (vs : List Value) (i j k : Nat) (O0 : Old Z n0 h0) (hi : i ≤ j) (hj : j ≤ k) (hk : k ≤ 40) (hv : vs.length = k) (V1 : Arv Z h0 a1 k1 .byte (ofNat k) vs (.int 0)) (hne : ¬ (i = 0 ∧ j = k)) :
 yZ l Z mN47 jdk_65_method_132_code 3 (some (.array .byte)) [] crWR #[(.ref a1), (.int (ofNat i)), (.int (ofNat j))] h0 (fun v h L => Fr n0 L ∧ ∃ (b : Nat) (kb : ClassId), v = some (.ref b) ∧ Keep h0 h [] ∧ h0.size ≤ b ∧ b < h.size ∧ Arv Z h b kb .byte (ofNat (j - i)) ((vs.drop i).take (j - i)) (.int 0)) := by
 refine yK (plainFor_of_name pd23) ?_
 intro p e s m below meth c T0 X0 hx hby hml hZ hown hnm hret hlk e0
 have hM := @qK _ _ hml
 have W := qC hw
 have Q := @yR p c _ _ _ hx hby d51
 have N0 := Fr.nil n0
 have zO := yM O0
 refine yP 0 rfl rfl ?_
 refine yG m 0 #[rv a1, iv (ofNat i), iv (ofNat j)] [] ?_
 refine yA (fun _ z_ => yE X0 (Q 0) rfl z_) ?_
 by_cases c101 : (ofNat i) = (0 : Int32)
 · refine yA (fun _ z_ => qA X0 (Q 1) rfl ((if0 _ _).trans (teq c101).2) (yE X0 (Q 2) rfl (yC X0 (Q 3) rfl rfl z_))) ?_
   have zo := V1
   obtain ⟨c102, Ar102, q102, S102, M102, H102, U102⟩ := zo
   refine yA (X0.arraylength hx (by rw [e0]; exact Ar102.1) (State.isArrayOf_alike hZ.alike Ar102.2.1) (g := (mkF m 6 #[rv a1, iv (ofNat i), iv (ofNat j)] [(.ref a1), (.int (ofNat j))])) rfl rfl (Q 4).2) ?_
   rw [len_of S102 M102]
   refine yA (fun _ z_ => qH X0 (Q 5) rfl (feq (fun q => hne ⟨(o_nin (by omega) (by omega)).mp c101, (o_nin (by omega) (by omega)).mp q⟩)).1 (yC X0 (Q 6) rfl rfl (yE X0 (Q 7) rfl (yE X0 (Q 8) rfl z_)))) ?_
   refine yL (qD X0 hZ (y := mN46) hown (W 305) (W 306) (W 303) (W 307) 0 (crB hw a1 _ vs i j k O0 hi hj hk hv V1) e0 (by decide) rfl (hM rfl) [(.ref a1), (.int (ofNat i)), (.int (ofNat j))] (rest := []) pd25 rfl rfl rfl rfl rfl (Q 9)) ?_
   rintro T103 _ _ h103 X103 e103 ⟨N103q, b103, k103, rfl, K103, zb103, zc103, V103⟩
   have zK103 := K103.1
   have N103 := Fr.app N0 N103q
   exact yW X103 hlk e103 hret rfl (uA rfl rfl) (Q 10) (by decide) ⟨N103, b103, _, rfl, K103, by omega, V103.lt, V103⟩
 · refine yA (fun _ z_ => qF X0 1 10 rfl (Q 1) rfl ((if0 _ _).trans (feq c101).2) (by decide) (yC X0 (Q 6) rfl rfl (yE X0 (Q 7) rfl (yE X0 (Q 8) rfl z_)))) ?_
   refine yL (qD X0 hZ (y := mN46) hown (W 305) (W 306) (W 303) (W 307) 0 (crB hw a1 _ vs i j k O0 hi hj hk hv V1) e0 (by decide) rfl (hM rfl) [(.ref a1), (.int (ofNat i)), (.int (ofNat j))] (rest := []) pd25 rfl rfl rfl rfl rfl (Q 9)) ?_
   rintro T104 _ _ h104 X104 e104 ⟨N104q, b104, k104, rfl, K104, zb104, zc104, V104⟩
   have zK104 := K104.1
   have N104 := Fr.app N0 N104q
   exact yW X104 hlk e104 hret rfl (uA rfl rfl) (Q 10) (by decide) ⟨N104, b104, _, rfl, K104, by omega, V104.lt, V104⟩
theorem d36 : yX jdk_68_method_2_code [(0, .aload_n 0, 1), (1, .invokespecial 3, 3), (4, .getstatic 18, 3), (7, .ifCond .eq 18, 3), (10, .aload_n 0, 1), (11, .iload_n 1, 1), (12, .newarray .byte, 2), (14, .putfield 15, 3), (17, .aload_n 0, 1), (18, .iconst 0, 1), (19, .putfield 22, 3), (22, .goto 16, 3), (38, .return_, 1)] := by decide +kernel
theorem pd26 : plainName sN4 = true := by first | (simp [plainName, overriddenIn]; done) | decide +kernel
abbrev asIR : Room := { frames := 1, cells := 1, slots := 16, locals := 12 }
theorem asI (hw : yQ a0 Z) (a1 : Nat) (u1 u2 : Value) (O0 : Old Z n0 h0) (CS : uE Z) (g1 : n0 ≤ a1) (E1 : Exa Z h0 a1 sN14) (F1 : Fld Z h0 a1 sN4 "value" "[B" u1) (F2 : Fld Z h0 a1 sN4 "coder" "B" u2) (F3 : Fld Z h0 a1 sN4 "count" "I" (.int 0)) (F4 : Fld Z h0 a1 sN4 "maybeLatin1" "Z" (.int 0)) :
 yZ l Z (⟨sN4, "<init>", "(I)V"⟩ : MethodName) jdk_68_method_2_code 2 none [] asIR #[(.ref a1), (.int (16 : Int32))] h0 (fun v h L => v = none ∧ Fr n0 L ∧ Keep h0 h [a1] ∧ ∃ (t : Nat) (kb : ClassId), h0.size ≤ t ∧ uM Z h a1 t kb []) := by
 refine yK (plainFor_of_name pd26) ?_
 intro p e s m below meth c T0 X0 hx hby hml hZ hown hnm hret hlk e0
 have hM := @qK _ _ hml
 have W := qC hw
 have Q := @yR p c _ _ _ hx hby d36
 have N0 := Fr.nil n0
 have zO := yM O0
 have zo := CS
 obtain ⟨zc, Sc, hzc⟩ := zo
 have la1 : a1 < h0.size := E1.lt
 refine yP 0 rfl rfl ?_
 refine yG m 0 #[rv a1, iv (16 : Int32)] [] ?_
 refine yA (fun _ z_ => yC X0 (Q 0) rfl rfl z_) ?_
 refine yO (initO X0 hx hZ hown (W 215) (W 19) (W 20) e0 rfl (hM rfl) rfl (Q 1).2 (by decide) (W := 0) (qE rfl rfl) (by decide)) ?_
 intro T101 X101 e101
 refine yO (getS2 X101 hx hZ hown (host := "") (Or.inl (W 216)) Via.refl e101 (Sc.ext O0.2) rfl (Q 2).2) ?_
 intro T102 X102 e102
 refine yG m 7 #[rv a1, iv (16 : Int32)] [(.int zc)] ?_
 refine yA (fun _ z_ => qA X102 (Q 3) rfl ((if0 _ _).trans (feq hzc).1) (yC X102 (Q 4) rfl rfl (yE X102 (Q 5) rfl z_))) ?_
 have zo := newP X102 hx hZ (aty := .byte) (W 26) e102 (g := (mkF m 12 #[rv a1, iv (16 : Int32)] [(.int (16 : Int32)), (.ref a1)])) rfl (Q 6).2 rfl (by decide) (cap := 16) (by decide) (by decide) (by decide) (by decide)
 obtain ⟨T103, h103, k103, X103, e103, E103, A103, st103⟩ := zo
 have zo : ∃ z, z = h0.size := ⟨_, rfl⟩
 obtain ⟨b103, g103⟩ := zo
 rw [← g103] at A103 st103
 have K103 : Keep h0 h103 [] := (Keep.refl _ _).ext E103
 have l103 : b103 < h103.size := A103.lt
 refine yA st103 ?_
 have zK103 := K103.1
 have V103 : Arv Z h103 b103 k103 .byte (16 : Int32) [(.int (0 : Int32)), (.int (0 : Int32)), (.int (0 : Int32)), (.int (0 : Int32)), (.int (0 : Int32)), (.int (0 : Int32)), (.int (0 : Int32)), (.int (0 : Int32)), (.int (0 : Int32)), (.int (0 : Int32)), (.int (0 : Int32)), (.int (0 : Int32)), (.int (0 : Int32)), (.int (0 : Int32)), (.int (0 : Int32)), (.int (0 : Int32))] (.int (0 : Int32)) := (Arv.new A103 (by decide)).pad (pad_rep [] (.int (0 : Int32)) 16)
 have f104 := (F1.keep K103 nin0)
 have f105 := (E1.keep K103)
 refine qL (putF X103 hx hZ hown (host := "") (Or.inl (W 217)) Via.refl e103 f104 f105 (Or.inl (W 218)) (W 204) (ty := (.array .byte)) (by decide) rfl rfl rfl rfl (Q 7).2) ?_
 intro T106 h106 X106 e106 W106
 have F106 := f104.same W106
 have K106 := Keep.of_wr W106
 have N106 := Fr.snoc X106 N0 (by omega : n0 ≤ a1)
 have zK106 := K106.1
 refine yA (fun _ z_ => yC X106 (Q 8) rfl rfl (yH X106 (Q 9) z_)) ?_
 have KK107 := yF (yI (Keep.refl h0 [a1]) K103) K106
 have f108 := ((F2.keep K103 nin0).other W106 (yS (Or.inl (W 220)) (Or.inl (W 218)) (by decide)))
 have f109 := (f105.keep K106)
 refine qL (putFN X106 hx hZ hown (W 219) Via.refl e106 f108 f109 (Or.inl (W 220)) (W 204) (ty := .byte) (v' := (.int (0 : Int32))) (by decide) (by decide) (by decide) rfl rfl (Q 10).2) ?_
 intro T110 h110 X110 e110 W110
 have F110 := f108.same W110
 have K110 := Keep.of_wr W110
 have N110 := Fr.snoc X110 N106 (by omega : n0 ≤ a1)
 have zK110 := K110.1
 refine yA (fun _ z_ => yT X110 22 38 rfl (Q 11) (by decide) z_) ?_
 have KK111 := yF (yF (yI (Keep.refl h0 [a1]) K103) K106) K110
 have f112 := (f109.keep K110)
 have f113 := (F106.other W110 (yS (Or.inl (W 218)) (Or.inl (W 220)) (by decide)))
 have f114 := (((F3.keep K103 nin0).other W106 (yS (Or.inl (W 248)) (Or.inl (W 218)) (by decide))).other W110 (yS (Or.inl (W 248)) (Or.inl (W 220)) (by decide)))
 have f115 := (((F4.keep K103 nin0).other W106 (yS (Or.inl (W 523)) (Or.inl (W 218)) (by decide))).other W110 (yS (Or.inl (W 523)) (Or.inl (W 220)) (by decide)))
 have KK116 := yF (yF (Keep.refl h103 [a1]) K106) K110
 have f117 := (V103.keep KK116 (yB (by omega) nin0))
 exact uG X110 hlk e110 hret (Q 12) (by decide) ⟨rfl, N110, KK111, b103, _, by omega, f112, 0, ofNat 16, _, f113, F110, f114, f115, f117, Or.inl ⟨rfl, rfl, rfl, rfl, fun c hc => nomatch hc⟩, (fun c hc => nomatch hc), by omega⟩
theorem d35 : yX jdk_67_method_1_code [(0, .aload_n 0, 1), (1, .bipush 16, 2), (3, .invokespecial 1, 3), (6, .return_, 1)] := by decide +kernel
theorem pd27 : parseMethodDescriptor "(I)V" = some ⟨[.int], none⟩ := by decide +kernel
theorem pd28 : plainName sN14 = true := by first | (simp [plainName, overriddenIn]; done) | decide +kernel
abbrev sbI0R : Room := { frames := 2, cells := 1, slots := 16, locals := 25 }
theorem sbI0 (hw : yQ a0 Z) (a1 : Nat) (u1 u2 : Value) (O0 : Old Z n0 h0) (CS : uE Z) (g1 : n0 ≤ a1) (E1 : Exa Z h0 a1 sN14) (F1 : Fld Z h0 a1 sN4 "value" "[B" u1) (F2 : Fld Z h0 a1 sN4 "coder" "B" u2) (F3 : Fld Z h0 a1 sN4 "count" "I" (.int 0)) (F4 : Fld Z h0 a1 sN4 "maybeLatin1" "Z" (.int 0)) :
 yZ l Z (⟨sN14, "<init>", "()V"⟩ : MethodName) jdk_67_method_1_code 1 none [] sbI0R #[(.ref a1)] h0 (fun v h L => v = none ∧ Fr n0 L ∧ Keep h0 h [a1] ∧ ∃ (t : Nat) (kb : ClassId), h0.size ≤ t ∧ uM Z h a1 t kb []) := by
 refine yK (plainFor_of_name pd28) ?_
 intro p e s m below meth c T0 X0 hx hby hml hZ hown hnm hret hlk e0
 have hM := @qK _ _ hml
 have W := qC hw
 have Q := @yR p c _ _ _ hx hby d35
 have N0 := Fr.nil n0
 have zO := yM O0
 have la1 : a1 < h0.size := E1.lt
 refine yP 0 rfl rfl ?_
 refine yG m 0 #[rv a1] [] ?_
 refine yA (fun _ z_ => yC X0 (Q 0) rfl rfl (yY X0 (Q 1) z_)) ?_
 refine yL (o_cI X0 hZ (y := (⟨sN4, "<init>", "(I)V"⟩ : MethodName)) rfl hown (W 209) (W 210) (W 214) (W 213) 0 (asI hw a1 _ _ O0 CS (by omega) E1 F1 F2 F3 F4) e0 (by decide) rfl (hM rfl) (a := a1) [(.int (16 : Int32))] (rest := []) pd27 rfl rfl rfl rfl rfl (Q 2)) ?_
 rintro T101 _ _ h101 X101 e101 ⟨rfl, N101q, K101, t101, kb101, zt101, S101⟩
 have zK101 := K101.1
 have N101 := Fr.app N0 N101q
 have ls101 := S101.lt
 have E101 := S101.1
 exact uG X101 hlk e101 hret (Q 3) (by decide) ⟨rfl, N101, K101, _, _, by omega, S101⟩
theorem d43 : yX jdk_68_method_68_code [(0, .getstatic 18, 3), (3, .ifCond .eq 14, 3), (6, .aload_n 0, 1), (7, .getfield 22, 3), (10, .ifCond .ne 7, 3), (17, .iconst 0, 1), (18, .ireturn, 1), (13, .iconst 1, 1), (14, .goto 4, 3)] := by decide +kernel
abbrev al1R : Room := { frames := 0, cells := 0, slots := 0, locals := 0 }
theorem al1 (hw : yQ a0 Z) (a1 : Nat) (O0 : Old Z n0 h0) (CS : uE Z) (F1 : Fld Z h0 a1 sN4 "coder" "B" (.int 1)) :
 yZ l Z mN4 jdk_68_method_68_code 1 (some .boolean) [] al1R #[(.ref a1)] h0 (fun v h L => v = some (.int 0) ∧ Fr n0 L ∧ h = h0) := by
 refine yK (plainFor_of_name pd26) ?_
 intro p e s m below meth c T0 X0 hx hby hml hZ hown hnm hret hlk e0
 have W := qC hw
 have Q := @yR p c _ _ _ hx hby d43
 have N0 := Fr.nil n0
 have zO := yM O0
 have zo := CS
 obtain ⟨zc, Sc, hzc⟩ := zo
 refine yP 0 rfl rfl ?_
 refine yG m 0 #[rv a1] [] ?_
 refine yO (getS2 X0 hx hZ hown (host := "") (Or.inl (W 216)) Via.refl e0 (Sc.ext O0.2) rfl (Q 0).2) ?_
 intro T101 X101 e101
 refine yA (fun _ z_ => qA X101 (Q 1) rfl ((if0 _ _).trans (feq hzc).1) (yC X101 (Q 2) rfl rfl z_)) ?_
 refine yO (yV X101 hZ hown (W 219) e101 F1 rfl rfl (Q 3)) ?_
 intro T102 X102 e102
 refine yA (fun _ z_ => qF X102 10 17 rfl (Q 4) rfl ((if0 _ _).trans (feq (by decide)).2) (by decide) (yH X102 (Q 5) z_)) ?_
 refine yG m 18 #[rv a1] [(.int (0 : Int32))] ?_
 exact yW X102 hlk e102 hret (by decide) uN (Q 6) (by decide) ⟨rfl, N0, rfl⟩
abbrev al0R : Room := { frames := 0, cells := 0, slots := 0, locals := 0 }
theorem al0 (hw : yQ a0 Z) (a1 : Nat) (O0 : Old Z n0 h0) (CS : uE Z) (F1 : Fld Z h0 a1 sN4 "coder" "B" (.int 0)) :
 yZ l Z mN4 jdk_68_method_68_code 1 (some .boolean) [] al0R #[(.ref a1)] h0 (fun v h L => v = some (.int 1) ∧ Fr n0 L ∧ h = h0) := by
 refine yK (plainFor_of_name pd26) ?_
 intro p e s m below meth c T0 X0 hx hby hml hZ hown hnm hret hlk e0
 have W := qC hw
 have Q := @yR p c _ _ _ hx hby d43
 have N0 := Fr.nil n0
 have zO := yM O0
 have zo := CS
 obtain ⟨zc, Sc, hzc⟩ := zo
 refine yP 0 rfl rfl ?_
 refine yG m 0 #[rv a1] [] ?_
 refine yO (getS2 X0 hx hZ hown (host := "") (Or.inl (W 216)) Via.refl e0 (Sc.ext O0.2) rfl (Q 0).2) ?_
 intro T101 X101 e101
 refine yA (fun _ z_ => qA X101 (Q 1) rfl ((if0 _ _).trans (feq hzc).1) (yC X101 (Q 2) rfl rfl z_)) ?_
 refine yO (yV X101 hZ hown (W 219) e101 F1 rfl rfl (Q 3)) ?_
 intro T102 X102 e102
 refine yA (fun _ z_ => qA X102 (Q 4) rfl ((if0 _ _).trans (teq (by decide)).2) (yH X102 (Q 7) (yT X102 14 18 rfl (Q 8) (by decide) z_))) ?_
 exact yW X102 hlk e102 hret (by decide) uN (Q 6) (by decide) ⟨rfl, N0, rfl⟩
theorem d41 : yX jdk_68_method_9_code [(0, .aload_n 0, 1), (1, .getfield 15, 3), (4, .arraylength, 1), (5, .aload_n 0, 1), (6, .getfield 22, 3), (9, .ishr, 1), (10, .istore_n 2, 1), (11, .iload_n 1, 1), (12, .iload_n 2, 1), (13, .isub, 1), (14, .ifCond .le 24, 3), (38, .return_, 1)] := by decide +kernel
abbrev ecWR : Room := { frames := 0, cells := 0, slots := 0, locals := 0 }
theorem ecW (hw : yQ a0 Z) (a1 t1 : Nat) (k1 : ClassId) (cs : List Int32) (n : Nat) (O0 : Old Z n0 h0) (hn : n ≤ 16) (S1 : uM Z h0 a1 t1 k1 cs) :
 yZ l Z mN2 jdk_68_method_9_code 3 none [] ecWR #[(.ref a1), (.int (ofNat n))] h0 (fun v h L => v = none ∧ Fr n0 L ∧ h = h0) := by
 refine yK (plainFor_of_name pd26) ?_
 intro p e s m below meth c T0 X0 hx hby hml hZ hown hnm hret hlk e0
 have W := qC hw
 have Q := @yR p c _ _ _ hx hby d41
 have N0 := Fr.nil n0
 have zO := yM O0
 have zo := S1
 obtain ⟨E1, cd1, N1, vs1, F1, F2, F3, F4, A1, r1, hbd1, hne1⟩ := zo
 have hlt1 := S1.lt
 refine yP 1 rfl rfl ?_
 refine yG m 0 #[rv a1, iv (ofNat n), .unset] [] ?_
 rcases r1 with ⟨rfl, rfl, hvl1, hlt_, hlat1⟩ | ⟨rfl, rfl, hvl1, hwd_, cw1, hcm1, hcw1⟩
 · refine yG m 0 #[rv a1, iv (ofNat n), .unset] [] ?_
   refine yA (fun _ z_ => yC X0 (Q 0) rfl rfl z_) ?_
   refine yO (yV X0 hZ hown (W 217) e0 F1 rfl rfl (Q 1)) ?_
   intro T101 X101 e101
   have zo := A1
   obtain ⟨c102, Ar102, q102, S102, M102, H102, U102⟩ := zo
   refine yA (X101.arraylength hx (by rw [e101]; exact Ar102.1) (State.isArrayOf_alike hZ.alike Ar102.2.1) (g := (mkF m 4 #[rv a1, iv (ofNat n), .unset] [(.ref t1)])) rfl rfl (Q 2).2) ?_
   rw [len_of S102 M102]
   refine yA (fun _ z_ => yC X101 (Q 3) rfl rfl z_) ?_
   refine yO (yV X101 hZ hown (W 219) e101 F2 rfl rfl (Q 4)) ?_
   intro T103 X103 e103
   refine yA (fun _ z_ => XS.ishr X103.here hx rfl (Q 5).2 rfl z_) ?_
   refine yG m 10 #[rv a1, iv (ofNat n), .unset] [(.int ((ofNat 16) >>> ((0 : Int32) &&& 31)))] ?_
   rw [show ((ofNat 16) >>> ((0 : Int32) &&& 31)) = ofNat 16 from by decide]
   refine yA (fun _ z_ => XS.istoreN X103.here hx rfl (Q 6).2 rfl rfl (yE X103 (Q 7) rfl (yE X103 (Q 8) rfl (XS.isub X103.here hx rfl (Q 9).2 rfl (qF X103 14 38 rfl (Q 10) rfl ((if0 _ _).trans (flt (o_sub16 hn)).2.2.2) (by decide) z_))))) ?_
   exact uG X103 hlk e103 hret (Q 11) (by decide) ⟨rfl, N0, rfl⟩
 · refine yG m 0 #[rv a1, iv (ofNat n), .unset] [] ?_
   refine yA (fun _ z_ => yC X0 (Q 0) rfl rfl z_) ?_
   refine yO (yV X0 hZ hown (W 217) e0 F1 rfl rfl (Q 1)) ?_
   intro T104 X104 e104
   have zo := A1
   obtain ⟨c105, Ar105, q105, S105, M105, H105, U105⟩ := zo
   refine yA (X104.arraylength hx (by rw [e104]; exact Ar105.1) (State.isArrayOf_alike hZ.alike Ar105.2.1) (g := (mkF m 4 #[rv a1, iv (ofNat n), .unset] [(.ref t1)])) rfl rfl (Q 2).2) ?_
   rw [len_of S105 M105]
   refine yA (fun _ z_ => yC X104 (Q 3) rfl rfl z_) ?_
   refine yO (yV X104 hZ hown (W 219) e104 F2 rfl rfl (Q 4)) ?_
   intro T106 X106 e106
   refine yA (fun _ z_ => XS.ishr X106.here hx rfl (Q 5).2 rfl z_) ?_
   refine yG m 10 #[rv a1, iv (ofNat n), .unset] [(.int ((ofNat (2 * 16)) >>> ((1 : Int32) &&& 31)))] ?_
   rw [show ((ofNat (2 * 16)) >>> ((1 : Int32) &&& 31)) = ofNat 16 from by decide]
   refine yA (fun _ z_ => XS.istoreN X106.here hx rfl (Q 6).2 rfl rfl (yE X106 (Q 7) rfl (yE X106 (Q 8) rfl (XS.isub X106.here hx rfl (Q 9).2 rfl (qF X106 14 38 rfl (Q 10) rfl ((if0 _ _).trans (flt (o_sub16 hn)).2.2.2) (by decide) z_))))) ?_
   exact uG X106 hlk e106 hret (Q 11) (by decide) ⟨rfl, N0, rfl⟩
theorem d77 : yX jdk_43_method_3_code [(0, .iload_n 0, 1), (1, .sipush 255, 3), (4, .if_icmp .gt 7, 3), (7, .iconst 1, 1), (8, .goto 4, 3), (12, .ireturn, 1), (11, .iconst 0, 1)] := by decide +kernel
abbrev ca1R : Room := { frames := 0, cells := 0, slots := 0, locals := 0 }
theorem ca1 (hw : yQ a0 Z) (cq : Int32) (O0 : Old Z n0 h0) (hc1 : ¬ (255 : Int32) < cq) :
 yZ l Z mN12 jdk_43_method_3_code 1 (some .boolean) [] ca1R #[(.int cq)] h0 (fun v h L => v = some (.int 1) ∧ Fr n0 L ∧ h = h0) := by
 refine yK (plainFor_of_name pd13) ?_
 intro p e s m below meth c T0 X0 hx hby hml hZ hown hnm hret hlk e0
 have W := qC hw
 have Q := @yR p c _ _ _ hx hby d77
 have N0 := Fr.nil n0
 have zO := yM O0
 refine yP 0 rfl rfl ?_
 refine yG m 0 #[iv cq] [] ?_
 refine yA (fun _ z_ => yE X0 (Q 0) rfl (XS.sipush X0.here hx rfl (Q 1).2 (qH X0 (Q 2) rfl (flt hc1).2.2.1 (yH X0 (Q 3) (yT X0 8 12 rfl (Q 4) (by decide) z_))))) ?_
 exact yW X0 hlk e0 hret (by decide) uN (Q 5) (by decide) ⟨rfl, N0, rfl⟩
abbrev ca0R : Room := { frames := 0, cells := 0, slots := 0, locals := 0 }
theorem ca0 (hw : yQ a0 Z) (cq : Int32) (O0 : Old Z n0 h0) (hc1 : (255 : Int32) < cq) :
 yZ l Z mN12 jdk_43_method_3_code 1 (some .boolean) [] ca0R #[(.int cq)] h0 (fun v h L => v = some (.int 0) ∧ Fr n0 L ∧ h = h0) := by
 refine yK (plainFor_of_name pd13) ?_
 intro p e s m below meth c T0 X0 hx hby hml hZ hown hnm hret hlk e0
 have W := qC hw
 have Q := @yR p c _ _ _ hx hby d77
 have N0 := Fr.nil n0
 have zO := yM O0
 refine yP 0 rfl rfl ?_
 refine yG m 0 #[iv cq] [] ?_
 refine yA (fun _ z_ => yE X0 (Q 0) rfl (XS.sipush X0.here hx rfl (Q 1).2 (qG X0 4 11 rfl (Q 2) rfl (tlt hc1).2.2.1 (by decide) (yH X0 (Q 6) z_)))) ?_
 exact yW X0 hlk e0 hret (by decide) uN (Q 5) (by decide) ⟨rfl, N0, rfl⟩
theorem d98 : yX jdk_52_method_71_code [(0, .iload_n 1, 1), (1, .aload_n 0, 1), (2, .invokestatic 67, 3), (5, .aload_n 0, 1), (6, .iload_n 1, 1), (7, .iload_n 2, 1), (8, .invokestatic 111, 3), (11, .return_, 1)] := by decide +kernel
abbrev psWR : Room := { frames := 3, cells := 0, slots := 0, locals := 40 }
theorem psW (hw : yQ a0 Z) (a1 : Nat) (k1 : ClassId) (cq : Int32) (i : Nat) (vs : List Value) (O0 : Old Z n0 h0) (UT : uB Z) (FM : uQ Z) (g1 : n0 ≤ a1) (hi : i < 16) (hv : vs.length = 2 * 16) (V1 : Arv Z h0 a1 k1 .byte (ofNat (2 * 16)) vs (.int 0)) :
 yZ l Z mN48 jdk_52_method_71_code 3 none [] psWR #[(.ref a1), (.int (ofNat i)), (.int cq)] h0 (fun v h L => v = none ∧ Fr n0 L ∧ Keep h0 h [a1] ∧ Arv Z h a1 k1 .byte (ofNat (2 * 16)) ((vs.set (2 * i) (.int (StrChars.lo8 cq))).set (2 * i + 1) (.int (StrChars.hi8 cq))) (.int 0)) := by
 refine yK (plainFor_of_name pd0) ?_
 intro p e s m below meth c T0 X0 hx hby hml hZ hown hnm hret hlk e0
 have hM := @qK _ _ hml
 have W := qC hw
 have Q := @yR p c _ _ _ hx hby d98
 have N0 := Fr.nil n0
 have zO := yM O0
 refine yP 0 rfl rfl ?_
 refine yG m 0 #[rv a1, iv (ofNat i), iv cq] [] ?_
 refine yA (fun _ z_ => yE X0 (Q 0) rfl (yC X0 (Q 1) rfl rfl z_)) ?_
 refine yL (qD X0 hZ (y := mN44) hown (W 489) (W 490) (W 24) (W 491) 0 (uxW hw a1 _ i 16 _ O0 FM (by omega) (by omega) V1) e0 (by decide) rfl (hM rfl) [(.int (ofNat i)), (.ref a1)] (rest := []) pd15 rfl rfl rfl rfl rfl (Q 2)) ?_
 rintro T101 _ _ h101 X101 e101 ⟨rfl, N101q, hq101⟩
 replace e101 := e101.trans hq101
 have N101 := Fr.app N0 N101q
 refine yA (fun _ z_ => yC X101 (Q 3) rfl rfl (yE X101 (Q 4) rfl (yE X101 (Q 5) rfl z_))) ?_
 refine yL (qD X101 hZ (y := mN18) hown (W 477) (W 478) (W 24) (W 479) 0 (pcN hw a1 _ cq i (2 * 16) vs O0 UT (by omega) (by omega) (by omega) hv V1) e101 (by decide) rfl (hM rfl) [(.ref a1), (.int (ofNat i)), (.int cq)] (rest := []) pd3 rfl rfl rfl rfl rfl (Q 6)) ?_
 rintro T102 _ _ h102 X102 e102 ⟨rfl, N102q, K102, V102⟩
 have zK102 := K102.1
 have N102 := Fr.app N101 N102q
 have lp102 : ((vs.set (2 * i) (.int (StrChars.lo8 cq))).set (2 * i + 1) (.int (StrChars.hi8 cq))).length = (2 * 16) := by rw [List.length_set, List.length_set]; exact hv
 exact uG X102 hlk e102 hret (Q 7) (by decide) ⟨rfl, N102, K102, V102⟩
theorem o_or3 {a b d : Nat} (ha : a < 2147483648) (hb : b < 2147483648) (hd : d < 2147483648) : ¬ (ofNat a ||| ofNat b ||| ofNat d) < 0 := by
 have e : ∀ {x y : Nat}, (ofNat x ||| ofNat y) = ofNat (x ||| y) := fun {x y} => by
  apply Int32.toBitVec_inj.mp
  show BitVec.ofNat 32 x ||| BitVec.ofNat 32 y = BitVec.ofNat 32 (x ||| y)
  exact BitVec.ofNat_or.symm
 rw [e, e]
 exact uK (Nat.or_lt_two_pow (n := 31) (Nat.or_lt_two_pow ha hb) hd)
theorem d97 : yX jdk_41_method_13_code [(0, .iload_n 2, 1), (1, .iload_n 0, 1), (2, .ior, 1), (3, .iload_n 1, 1), (4, .ior, 1), (5, .ifCond .lt 10, 3), (8, .iload_n 1, 1), (9, .iload_n 2, 1), (10, .iload_n 0, 1), (11, .isub, 1), (12, .if_icmp .le 11, 3), (23, .iload_n 0, 1), (24, .ireturn, 1)] := by decide +kernel
theorem ef_csP (m : MethodId) (x0 : Int32) (x1 : Int32) (x2 : Int32) (x3 : Value) (hx3 : x3.isRef = true) : entryFrame m #[(.int x0), (.int x1), (.int x2), x3] 4 = mkF m 0 #[iv x0, iv x1, iv x2, .val x3] [] := by rcases ref_cases hx3 with rfl | ⟨_, rfl⟩ <;> (first | (simp [entryFrame, mkF, argsToLocals, Value.category]; done) | rfl)
abbrev csPR : Room := { frames := 0, cells := 0, slots := 0, locals := 0 }
theorem csP (hw : yQ a0 Z) (i j k : Nat) (G : Value) (O0 : Old Z n0 h0) (hG : G.isRef = true) (hij : i + j ≤ k) (hk : k ≤ 40) :
 yZ l Z (⟨sN17, "checkFromIndexSize", "(IIILjava/util/function/BiFunction;)I"⟩ : MethodName) jdk_41_method_13_code 4 (some .int) [] csPR #[(.int (ofNat i)), (.int (ofNat j)), (.int (ofNat k)), G] h0 (fun v h L => v = some (.int (ofNat i)) ∧ Fr n0 L ∧ h = h0) := by
 refine yK (plainFor_of_name pd10) ?_
 intro p e s m below meth c T0 X0 hx hby hml hZ hown hnm hret hlk e0
 have W := qC hw
 have Q := @yR p c _ _ _ hx hby d97
 have N0 := Fr.nil n0
 have zO := yM O0
 refine yA (fun _ z_ => castTop (ef_csP m (ofNat i) (ofNat j) (ofNat k) G hG) (yE X0 (Q 0) rfl (yE X0 (Q 1) rfl (XS.ior X0.here hx rfl (Q 2).2 rfl (yE X0 (Q 3) rfl (XS.ior X0.here hx rfl (Q 4).2 rfl z_)))))) ?_
 refine yA (fun _ z_ => qA X0 (Q 5) rfl ((if0 _ _).trans (flt (o_or3 (by omega) (by omega) (by omega))).1) (yE X0 (Q 6) rfl (yE X0 (Q 7) rfl (yE X0 (Q 8) rfl (XS.isub X0.here hx rfl (Q 9).2 rfl (qG X0 12 23 rfl (Q 10) rfl (flt (by rw [o_nsub (by omega) (by omega), qP (by omega) (by omega)]; omega)).2.2.2 (by decide) z_)))))) ?_
 refine yA (fun _ z_ => yE X0 (Q 11) rfl z_) ?_
 exact yW X0 hlk e0 hret rfl o_iI (Q 12) (by decide) ⟨rfl, N0, rfl⟩
theorem d96 : yX jdk_42_method_157_code [(0, .iload_n 0, 1), (1, .iload_n 1, 1), (2, .iload_n 2, 1), (3, .getstatic 1053, 3), (6, .invokestatic 1065, 3), (9, .ireturn, 1)] := by decide +kernel
theorem pd29 : parseMethodDescriptor "(IIILjava/util/function/BiFunction;)I" = some ⟨[.int, .int, .int, (.object "java/util/function/BiFunction")], some .int⟩ := by decide +kernel
abbrev coSR : Room := { frames := 1, cells := 0, slots := 0, locals := 15 }
theorem coS (hw : yQ a0 Z) (i j k : Nat) (O0 : Old Z n0 h0) (FM : uQ Z) (hij : i + j ≤ k) (hk : k ≤ 40) :
 yZ l Z (⟨sN2, "checkBoundsOffCount", "(III)I"⟩ : MethodName) jdk_42_method_157_code 3 (some .int) [] coSR #[(.int (ofNat i)), (.int (ofNat j)), (.int (ofNat k))] h0 (fun v h L => v = some (.int (ofNat i)) ∧ Fr n0 L ∧ h = h0) := by
 refine yK (plainFor_of_name pd8) ?_
 intro p e s m below meth c T0 X0 hx hby hml hZ hown hnm hret hlk e0
 have hM := @qK _ _ hml
 have W := qC hw
 have Q := @yR p c _ _ _ hx hby d96
 have N0 := Fr.nil n0
 have zO := yM O0
 have zo := FM
 obtain ⟨G, Sg, hG⟩ := zo
 refine yP 0 rfl rfl ?_
 refine yG m 0 #[iv (ofNat i), iv (ofNat j), iv (ofNat k)] [] ?_
 refine yA (fun _ z_ => yE X0 (Q 0) rfl (yE X0 (Q 1) rfl (yE X0 (Q 2) rfl z_))) ?_
 refine yO (getS2 X0 hx hZ hown (host := "") (Or.inl (W 68)) Via.refl e0 (Sg.ext O0.2) rfl (Q 3).2) ?_
 intro T101 X101 e101
 refine yG m 6 #[iv (ofNat i), iv (ofNat j), iv (ofNat k)] [G, (.int (ofNat k)), (.int (ofNat j)), (.int (ofNat i))] ?_
 refine yL (qD X101 hZ (y := (⟨sN17, "checkFromIndexSize", "(IIILjava/util/function/BiFunction;)I"⟩ : MethodName)) hown (W 516) (W 517) (W 69) (W 518) 0 (csP hw i j k G O0 hG (by omega) (by omega)) e101 (by decide) rfl (hM rfl) [(.int (ofNat i)), (.int (ofNat j)), (.int (ofNat k)), G] (rest := []) pd29 rfl rfl rfl rfl rfl (Q 4)) ?_
 rintro T102 _ _ h102 X102 e102 ⟨rfl, N102q, hq102⟩
 replace e102 := e102.trans hq102
 have N102 := Fr.app N0 N102q
 exact yW X102 hlk e102 hret rfl o_iI (Q 5) (by decide) ⟨rfl, N102, rfl⟩
theorem d95 : yX jdk_52_method_94_code [(0, .iload_n 0, 1), (1, .iload_n 1, 1), (2, .aload_n 2, 1), (3, .invokestatic 48, 3), (6, .invokestatic 419, 3), (9, .pop, 1), (10, .return_, 1)] := by decide +kernel
theorem pd30 : parseMethodDescriptor "(III)I" = some ⟨[.int, .int, .int], some .int⟩ := by decide +kernel
abbrev coUR : Room := { frames := 2, cells := 0, slots := 0, locals := 29 }
theorem coU (hw : yQ a0 Z) (a1 : Nat) (k1 : ClassId) (i j : Nat) (vs : List Value) (O0 : Old Z n0 h0) (FM : uQ Z) (hij : i + j ≤ 16) (V1 : Arv Z h0 a1 k1 .byte (ofNat (2 * 16)) vs (.int 0)) :
 yZ l Z (⟨sN11, "checkBoundsOffCount", "(II[B)V"⟩ : MethodName) jdk_52_method_94_code 3 none [] coUR #[(.int (ofNat i)), (.int (ofNat j)), (.ref a1)] h0 (fun v h L => v = none ∧ Fr n0 L ∧ h = h0) := by
 refine yK (plainFor_of_name pd0) ?_
 intro p e s m below meth c T0 X0 hx hby hml hZ hown hnm hret hlk e0
 have hM := @qK _ _ hml
 have W := qC hw
 have Q := @yR p c _ _ _ hx hby d95
 have N0 := Fr.nil n0
 have zO := yM O0
 refine yP 0 rfl rfl ?_
 refine yG m 0 #[iv (ofNat i), iv (ofNat j), rv a1] [] ?_
 refine yA (fun _ z_ => yE X0 (Q 0) rfl (yE X0 (Q 1) rfl (yC X0 (Q 2) rfl rfl z_))) ?_
 refine yL (qD X0 hZ (y := mN43) hown (W 492) (W 493) (W 24) (W 494) 2 (ulW hw a1 _ 16 _ O0 (by omega) V1) e0 (by decide) rfl (hM rfl) [(.ref a1)] (rest := [(.int (ofNat j)), (.int (ofNat i))]) pd14 rfl rfl rfl rfl rfl (Q 3)) ?_
 rintro T101 _ _ h101 X101 e101 ⟨rfl, N101q, hq101⟩
 replace e101 := e101.trans hq101
 have N101 := Fr.app N0 N101q
 refine yL (qD X101 hZ (y := (⟨sN2, "checkBoundsOffCount", "(III)I"⟩ : MethodName)) hown (W 513) (W 514) (W 10) (W 515) 0 (coS hw i j 16 O0 FM (by omega) (by omega)) e101 (by decide) rfl (hM rfl) [(.int (ofNat i)), (.int (ofNat j)), (.int (ofNat 16))] (rest := []) pd30 rfl rfl rfl rfl rfl (Q 4)) ?_
 rintro T102 _ _ h102 X102 e102 ⟨rfl, N102q, hq102⟩
 replace e102 := e102.trans hq102
 have N102 := Fr.app N101 N102q
 refine yA (fun _ z_ => XS.pop X102.here hx rfl (Q 5).2 rfl rfl z_) ?_
 exact uG X102 hlk e102 hret (Q 6) (by decide) ⟨rfl, N102, rfl⟩
theorem d94 : yX jdk_52_method_86_code [(0, .iload_n 3, 1), (1, .iload 4, 2), (3, .aload_n 2, 1), (4, .invokestatic 173, 3), (7, .iconst 0, 1), (8, .istore 5, 2), (10, .iload 5, 2), (12, .iload 4, 2), (14, .if_icmp .ge 27, 3), (17, .aload_n 2, 1), (18, .iload_n 3, 1), (19, .iinc 3 1, 3), (22, .aload_n 0, 1), (23, .iload_n 1, 1), (24, .iinc 1 1, 3), (27, .baload, 1), (28, .sipush 255, 3), (31, .iand, 1), (32, .invokestatic 111, 3), (35, .iinc 5 1, 3), (38, .goto (-28), 3), (41, .return_, 1)] := by decide +kernel
theorem pd31 : parseMethodDescriptor "(II[B)V" = some ⟨[.int, .int, (.array .byte)], none⟩ := by decide +kernel
abbrev ifUR : Room := { frames := 3, cells := 0, slots := 0, locals := 43 }
theorem ifU (hw : yQ a0 Z) (a1 a2 : Nat) (k1 k2 : ClassId) (cs : List Int32) (vs vd : List Value) (O0 : Old Z n0 h0) (UT : uB Z) (FM : uQ Z) (hk : cs.length ≤ 16) (hlat : ∀ c ∈ cs, ¬ c < 0 ∧ ¬ (255 : Int32) < c) (hvl : vs.length = 16) (hvt : uU cs vs) (g2 : n0 ≤ a2) (h12 : a1 ≠ a2) (hdl : vd.length = 2 * 16) (V1 : Arv Z h0 a1 k1 .byte (ofNat 16) vs (.int 0)) (V2 : Arv Z h0 a2 k2 .byte (ofNat (2 * 16)) vd (.int 0)) :
 yZ l Z (⟨sN11, "inflate", "([BI[BII)V"⟩ : MethodName) jdk_52_method_86_code 6 none [] ifUR #[(.ref a1), (.int (0 : Int32)), (.ref a2), (.int (0 : Int32)), (.int (ofNat cs.length))] h0 (fun v h L => v = none ∧ Fr n0 L ∧ Keep h0 h [a2] ∧ ∃ vd' : List Value, Arv Z h a2 k2 .byte (ofNat (2 * 16)) vd' (.int 0) ∧ vd'.length = 2 * 16 ∧ o_wid cs vd') := by
 refine yK (plainFor_of_name pd0) ?_
 intro p e s m below meth c T0 X0 hx hby hml hZ hown hnm hret hlk e0
 have hM := @qK _ _ hml
 have W := qC hw
 have Q := @yR p c _ _ _ hx hby d94
 have N0 := Fr.nil n0
 have zO := yM O0
 refine yP 1 rfl rfl ?_
 refine yG m 0 #[rv a1, iv (0 : Int32), rv a2, iv (0 : Int32), iv (ofNat cs.length), .unset] [] ?_
 refine yA (fun _ z_ => yE X0 (Q 0) rfl (yJ X0 (Q 1) rfl (yC X0 (Q 2) rfl rfl z_))) ?_
 refine yL (qD X0 hZ (y := (⟨sN11, "checkBoundsOffCount", "(II[B)V"⟩ : MethodName)) hown (W 510) (W 511) (W 24) (W 512) 0 (coU hw a2 _ 0 cs.length _ O0 FM (by omega) V2) e0 (by decide) rfl (hM rfl) [(.int (0 : Int32)), (.int (ofNat cs.length)), (.ref a2)] (rest := []) pd31 rfl rfl rfl rfl rfl (Q 3)) ?_
 rintro T101 _ _ h101 X101 e101 ⟨rfl, N101q, hq101⟩
 replace e101 := e101.trans hq101
 have N101 := Fr.app N0 N101q
 refine yA (fun _ z_ => yH X101 (Q 4) (qM X101 (Q 5) rfl rfl z_)) ?_
 suffices G102 : ∀ (r : Nat) (Tj : State) (Lj : List Loc) (hL102 : Heap) (i : Nat) (vsj : List Value), (cs.length - i = r) → (Keep h0 hL102 [a2]) → (Arv Z hL102 a2 k2 .byte (ofNat (2 * 16)) vsj (.int 0)) → (i ≤ cs.length) → (vsj.length = 2 * 16) → (o_wid (cs.take i) vsj) → Stand p l e ifUR s m #[(.ref a1), (.int (0 : Int32)), (.ref a2), (.int (0 : Int32)), (.int (ofNat cs.length))] below meth c Tj Lj 0 0 → Tj.heap = hL102 → Fr n0 Lj → uR p e below s (fun v h L => v = none ∧ Fr n0 L ∧ Keep h0 h [a2] ∧ ∃ vd' : List Value, Arv Z h a2 k2 .byte (ofNat (2 * 16)) vd' (.int 0) ∧ vd'.length = 2 * 16 ∧ o_wid cs vd') ifUR.cells ifUR.slots (Tj.setTop (mkF m 10 #[rv a1, iv (ofNat i), rv a2, iv (ofNat i), iv (ofNat cs.length), iv (ofNat i)] [])) by
  exact G102 _ _ _ _ 0 _ rfl (Keep.refl _ _) V2 (Nat.zero_le _) hdl (o_wid.nil _) X101 e101 N101
 intro r
 induction r using Nat.strongRecOn with
 | _ r ih =>
  intro TG102 LG102 hL102 i vsj hm KL102 Vj hik hvj hwj XG102 eG102 NG102
  have zKL102 := KL102.1
  refine yA (fun _ z_ => yJ XG102 (Q 6) rfl (yJ XG102 (Q 7) rfl z_)) ?_
  by_cases c103 : (ofNat i) < (ofNat cs.length)
  · refine yA (fun _ z_ => qH XG102 (Q 8) rfl (tlt c103).2.1 z_) ?_
    have hlt : i < cs.length := (qP (by omega) (by omega)).mp c103
    have el_ : (cs.take i).length = i := by rw [List.length_take]; omega
    refine yA (fun _ z_ => yC XG102 (Q 9) rfl rfl (yE XG102 (Q 10) rfl (XS.iinc XG102.here hx rfl (Q 11).2 rfl rfl (yC XG102 (Q 12) rfl rfl (yE XG102 (Q 13) rfl (XS.iinc XG102.here hx rfl (Q 14).2 rfl rfl z_)))))) ?_
    have f104 := (V1.keep KL102 (yB (by omega) nin0))
    have zo := f104
    obtain ⟨c105, Ar105, q105, S105, M105, H105, U105⟩ := zo
    have hi105 := inb_of (j := (ofNat i)) S105 ⟨uK (by omega), (qP (by omega) (by omega)).mpr (by omega)⟩
    refine yA (XG102.baloadBytes hx (j := (ofNat i)) (v := (.int (StrChars.lo8 (cs.getD i 0)))) (by rw [eG102]; exact Ar105.1) (State.isArrayOf_alike hZ.alike Ar105.2.1) Ar105.2.2 hi105 (H105.at hi105 (by rw [qU (by omega)]; exact hvt.get hlt)) (g := (mkF m 27 #[rv a1, iv ((ofNat i) + (1 : Int32)), rv a2, iv ((ofNat i) + (1 : Int32)), iv (ofNat cs.length), iv (ofNat i)] [(.int (ofNat i)), (.ref a1), (.int (ofNat i)), (.ref a2)])) rfl rfl (Q 15).2) ?_
    refine yA (fun _ z_ => XS.sipush XG102.here hx rfl (Q 16).2 (XS.iand XG102.here hx rfl (Q 17).2 rfl z_)) ?_
    refine yG m 32 #[rv a1, iv ((ofNat i) + (1 : Int32)), rv a2, iv ((ofNat i) + (1 : Int32)), iv (ofNat cs.length), iv (ofNat i)] [(.int ((StrChars.lo8 (cs.getD i 0)) &&& (255 : Int32))), (.int (ofNat i)), (.ref a2)] ?_
    rw [o_lom (o_gin hlat hlt).1 (o_gin hlat hlt).2]
    have O106 : Old Z n0 hL102 := O0.keep KL102 (allS (by omega) all0)
    refine yL (qD XG102 hZ (y := mN18) hown (W 477) (W 478) (W 24) (W 479) 0 (pcN hw a2 _ (cs.getD i 0) i (2 * 16) vsj O106 UT (by omega) (by omega) (by omega) hvj Vj) eG102 (by decide) rfl (hM rfl) [(.ref a2), (.int (ofNat i)), (.int (cs.getD i 0))] (rest := []) pd3 rfl rfl rfl rfl rfl (Q 18)) ?_
    rintro T107 _ _ h107 X107 e107 ⟨rfl, N107q, K107, V107⟩
    have zK107 := K107.1
    have N107 := Fr.app NG102 N107q
    have lp107 : ((vsj.set (2 * i) (.int (StrChars.lo8 (cs.getD i 0)))).set (2 * i + 1) (.int (StrChars.hi8 (cs.getD i 0)))).length = (2 * 16) := by rw [List.length_set, List.length_set]; exact hvj
    refine yA (fun _ z_ => XS.iinc X107.here hx rfl (Q 19).2 rfl rfl (yT X107 38 10 rfl (Q 20) (by decide) z_)) ?_
    refine yG m 10 #[rv a1, iv ((ofNat i) + (1 : Int32)), rv a2, iv ((ofNat i) + (1 : Int32)), iv (ofNat cs.length), iv ((ofNat i) + (1 : Int32))] [] ?_
    rw [show ofNat i + (1 : Int32) = ofNat (i + 1) from uD (b := 1) (by omega)]
    refine yG m 10 #[rv a1, iv (ofNat (i + 1)), rv a2, iv (ofNat (i + 1)), iv (ofNat cs.length), iv (ofNat (i + 1))] [] ?_
    have hn_ := o_wid.put hwj (by rw [el_]; omega) (cs.getD i 0)
    rw [el_, ← o_tkS cs i hlt] at hn_
    have KK108 := yF (yF (Keep.refl h0 [a2]) KL102) K107
    exact ih _ (by omega) _ _ _ (i + 1) _ rfl KK108 V107 hlt lp107 hn_ X107 e107 N107
  · refine yA (fun _ z_ => qG XG102 14 41 rfl (Q 8) rfl (flt c103).2.1 (by decide) z_) ?_
    refine yG m 41 #[rv a1, iv (ofNat i), rv a2, iv (ofNat i), iv (ofNat cs.length), iv (ofNat i)] [] ?_
    have hie : ¬ i < cs.length := fun q => c103 ((qP (by omega) (by omega)).mpr q)
    rw [List.take_of_length_le (by omega : cs.length ≤ i)] at hwj
    exact uG XG102 hlk eG102 hret (Q 21) (by decide) ⟨rfl, NG102, KL102, _, Vj, hvj, hwj⟩
theorem d93 : yX jdk_43_method_50_code [(0, .aload_n 0, 1), (1, .iload_n 1, 1), (2, .aload_n 2, 1), (3, .iload_n 3, 1), (4, .iload 4, 2), (6, .invokestatic 240, 3), (9, .return_, 1)] := by decide +kernel
theorem pd32 : parseMethodDescriptor "([BI[BII)V" = some ⟨[(.array .byte), .int, (.array .byte), .int, .int], none⟩ := by decide +kernel
abbrev ifLR : Room := { frames := 4, cells := 0, slots := 0, locals := 60 }
theorem ifL (hw : yQ a0 Z) (a1 a2 : Nat) (k1 k2 : ClassId) (cs : List Int32) (vs vd : List Value) (O0 : Old Z n0 h0) (UT : uB Z) (FM : uQ Z) (hk : cs.length ≤ 16) (hlat : ∀ c ∈ cs, ¬ c < 0 ∧ ¬ (255 : Int32) < c) (hvl : vs.length = 16) (hvt : uU cs vs) (g2 : n0 ≤ a2) (h12 : a1 ≠ a2) (hdl : vd.length = 2 * 16) (V1 : Arv Z h0 a1 k1 .byte (ofNat 16) vs (.int 0)) (V2 : Arv Z h0 a2 k2 .byte (ofNat (2 * 16)) vd (.int 0)) :
 yZ l Z (⟨sN18, "inflate", "([BI[BII)V"⟩ : MethodName) jdk_43_method_50_code 5 none [] ifLR #[(.ref a1), (.int (0 : Int32)), (.ref a2), (.int (0 : Int32)), (.int (ofNat cs.length))] h0 (fun v h L => v = none ∧ Fr n0 L ∧ Keep h0 h [a2] ∧ ∃ vd' : List Value, Arv Z h a2 k2 .byte (ofNat (2 * 16)) vd' (.int 0) ∧ vd'.length = 2 * 16 ∧ o_wid cs vd') := by
 refine yK (plainFor_of_name pd13) ?_
 intro p e s m below meth c T0 X0 hx hby hml hZ hown hnm hret hlk e0
 have hM := @qK _ _ hml
 have W := qC hw
 have Q := @yR p c _ _ _ hx hby d93
 have N0 := Fr.nil n0
 have zO := yM O0
 refine yP 0 rfl rfl ?_
 refine yG m 0 #[rv a1, iv (0 : Int32), rv a2, iv (0 : Int32), iv (ofNat cs.length)] [] ?_
 refine yA (fun _ z_ => yC X0 (Q 0) rfl rfl (yE X0 (Q 1) rfl (yC X0 (Q 2) rfl rfl (yE X0 (Q 3) rfl (yJ X0 (Q 4) rfl z_))))) ?_
 refine yL (qD X0 hZ (y := (⟨sN11, "inflate", "([BI[BII)V"⟩ : MethodName)) hown (W 507) (W 508) (W 24) (W 509) 0 (ifU hw a1 a2 _ _ cs _ _ O0 UT FM hk hlat hvl hvt (by omega) (by omega) hdl V1 V2) e0 (by decide) rfl (hM rfl) [(.ref a1), (.int (0 : Int32)), (.ref a2), (.int (0 : Int32)), (.int (ofNat cs.length))] (rest := []) pd32 rfl rfl rfl rfl rfl (Q 5)) ?_
 rintro T101 _ _ h101 X101 e101 ⟨rfl, N101q, K101, vd101, V101, lp101, wd101⟩
 have zK101 := K101.1
 have N101 := Fr.app N0 N101q
 exact uG X101 hlk e101 hret (Q 6) (by decide) ⟨rfl, N101, K101, _, V101, lp101, wd101⟩
theorem d92 : yX jdk_68_method_11_code [(0, .aload_n 0, 1), (1, .invokevirtual 83, 3), (4, .ifCond .ne 4, 3), (8, .aload_n 0, 1), (9, .getfield 15, 3), (12, .arraylength, 1), (13, .invokestatic 26, 3), (16, .astore_n 1, 1), (17, .aload_n 0, 1), (18, .getfield 15, 3), (21, .iconst 0, 1), (22, .aload_n 1, 1), (23, .iconst 0, 1), (24, .aload_n 0, 1), (25, .getfield 79, 3), (28, .invokestatic 125, 3), (31, .aload_n 0, 1), (32, .aload_n 1, 1), (33, .putfield 15, 3), (36, .aload_n 0, 1), (37, .iconst 1, 1), (38, .putfield 22, 3), (41, .return_, 1)] := by decide +kernel
abbrev ifBR : Room := { frames := 5, cells := 1, slots := 40, locals := 76 }
theorem ifB (hw : yQ a0 Z) (a1 t1 : Nat) (k1 : ClassId) (cs : List Int32) (vs : List Value) (O0 : Old Z n0 h0) (CS : uE Z) (UT : uB Z) (FM : uQ Z) (hk : cs.length ≤ 16) (hlat : ∀ c ∈ cs, ¬ c < 0 ∧ ¬ (255 : Int32) < c) (hvl : vs.length = 16) (hvt : uU cs vs) (g1 : n0 ≤ a1) (h1t : a1 ≠ t1) (E1 : Exa Z h0 a1 sN14) (F1 : Fld Z h0 a1 sN4 "value" "[B" (.ref t1)) (F2 : Fld Z h0 a1 sN4 "coder" "B" (.int 0)) (F3 : Fld Z h0 a1 sN4 "count" "I" (.int (ofNat cs.length))) (F4 : Fld Z h0 a1 sN4 "maybeLatin1" "Z" (.int 0)) (A1 : Arv Z h0 t1 k1 .byte (ofNat 16) vs (.int 0)) :
 yZ l Z mN49 jdk_68_method_11_code 2 none [] ifBR #[(.ref a1)] h0 (fun v h L => v = none ∧ Fr n0 L ∧ Keep h0 h [a1] ∧ ∃ (b : Nat) (kb : ClassId) (vd : List Value), h0.size ≤ b ∧ Exa Z h a1 sN14 ∧ Fld Z h a1 sN4 "value" "[B" (.ref b) ∧ Fld Z h a1 sN4 "coder" "B" (.int 1) ∧ Fld Z h a1 sN4 "count" "I" (.int (ofNat cs.length)) ∧ Fld Z h a1 sN4 "maybeLatin1" "Z" (.int 0) ∧ Arv Z h b kb .byte (ofNat (2 * 16)) vd (.int 0) ∧ vd.length = 2 * 16 ∧ o_wid cs vd) := by
 refine yK (plainFor_of_name pd26) ?_
 intro p e s m below meth c T0 X0 hx hby hml hZ hown hnm hret hlk e0
 have hM := @qK _ _ hml
 have W := qC hw
 have Q := @yR p c _ _ _ hx hby d92
 have N0 := Fr.nil n0
 have zO := yM O0
 have la1 : a1 < h0.size := E1.lt
 have lt1 : t1 < h0.size := A1.lt
 refine yP 1 rfl rfl ?_
 refine yG m 0 #[rv a1, .unset] [] ?_
 refine yA (fun _ z_ => yC X0 (Q 0) rfl rfl z_) ?_
 refine yL (qZ X0 hZ (y := mN4) hown (W 260) (W 261) (W 263) (W 262) (W 264) (W 213) 0 (al0 hw a1 O0 CS F2) e0 E1 (by decide) rfl (hM rfl) [] (rest := []) pd16 rfl rfl rfl rfl rfl (Q 1)) ?_
 rintro T101 _ _ h101 X101 e101 ⟨rfl, N101q, hq101⟩
 replace e101 := e101.trans hq101
 have N101 := Fr.app N0 N101q
 refine yA (fun _ z_ => qF X101 4 8 rfl (Q 2) rfl ((if0 _ _).trans (feq (by decide)).2) (by decide) (yC X101 (Q 3) rfl rfl z_)) ?_
 refine yO (yV X101 hZ hown (W 217) e101 F1 rfl rfl (Q 4)) ?_
 intro T102 X102 e102
 have zo := A1
 obtain ⟨c103, Ar103, q103, S103, M103, H103, U103⟩ := zo
 refine yA (X102.arraylength hx (by rw [e102]; exact Ar103.1) (State.isArrayOf_alike hZ.alike Ar103.2.1) (g := (mkF m 12 #[rv a1, .unset] [(.ref t1)])) rfl rfl (Q 5).2) ?_
 rw [len_of S103 M103]
 refine yL (qD X102 hZ (y := mN40) hown (W 503) (W 471) (W 24) (W 472) 0 (nfN hw 16 O0 (by omega)) e102 (by decide) rfl (hM rfl) [(.int (ofNat 16))] (rest := []) pd2 rfl rfl rfl rfl rfl (Q 6)) ?_
 rintro T104 _ _ h104 X104 e104 ⟨N104q, b104, k104, rfl, K104, zb104, zc104, V104⟩
 have zK104 := K104.1
 have N104 := Fr.app N101 N104q
 have lr104 : (List.replicate (2 * 16) (Value.int 0)).length = 2 * 16 := List.length_replicate
 refine yA (fun _ z_ => XS.astoreN X104.here hx rfl (Q 7).2 rfl rfl rfl (yC X104 (Q 8) rfl rfl z_)) ?_
 have f105 := (F1.keep K104 nin0)
 refine yO (yV X104 hZ hown (W 217) e104 f105 rfl rfl (Q 9)) ?_
 intro T106 X106 e106
 refine yA (fun _ z_ => yH X106 (Q 10) (yC X106 (Q 11) rfl rfl (yH X106 (Q 12) (yC X106 (Q 13) rfl rfl z_)))) ?_
 have f107 := (F3.keep K104 nin0)
 refine yO (yV X106 hZ hown (W 247) e106 f107 rfl rfl (Q 14)) ?_
 intro T108 X108 e108
 have O109 : Old Z n0 h104 := O0.keep K104 all0
 have f110 := (A1.keep K104 nin0)
 refine yL (qD X108 hZ (y := (⟨sN18, "inflate", "([BI[BII)V"⟩ : MethodName)) hown (W 504) (W 505) (W 63) (W 506) 0 (ifL hw t1 b104 _ _ cs _ _ O109 UT FM hk hlat hvl hvt (by omega) (by omega) lr104 f110 V104) e108 (by decide) rfl (hM rfl) [(.ref t1), (.int (0 : Int32)), (.ref b104), (.int (0 : Int32)), (.int (ofNat cs.length))] (rest := []) pd32 rfl rfl rfl rfl rfl (Q 15)) ?_
 rintro T111 _ _ h111 X111 e111 ⟨rfl, N111q, K111, vd111, V111, lp111, wd111⟩
 have zK111 := K111.1
 have N111 := Fr.app N104 N111q
 refine yG m 31 #[rv a1, rv b104] [] ?_
 refine yA (fun _ z_ => yC X111 (Q 16) rfl rfl (yC X111 (Q 17) rfl rfl z_)) ?_
 have f112 := (f105.keep K111 (yB (by omega) nin0))
 have KK113 := yN (yI (Keep.refl h0 []) K104) K111
 have f114 := (E1.keep KK113)
 refine qL (putF X111 hx hZ hown (host := "") (Or.inl (W 217)) Via.refl e111 f112 f114 (Or.inl (W 218)) (W 204) (ty := (.array .byte)) (by decide) rfl rfl rfl rfl (Q 18).2) ?_
 intro T115 h115 X115 e115 W115
 have F115 := f112.same W115
 have K115 := Keep.of_wr W115
 have N115 := Fr.snoc X115 N111 (by omega : n0 ≤ a1)
 have zK115 := K115.1
 refine yA (fun _ z_ => yC X115 (Q 19) rfl rfl (yH X115 (Q 20) z_)) ?_
 have KK116 := yF (yN (yI (Keep.refl h0 [a1]) K104) K111) K115
 have f117 := (((F2.keep K104 nin0).keep K111 (yB (by omega) nin0)).other W115 (yS (Or.inl (W 220)) (Or.inl (W 218)) (by decide)))
 have f118 := (f114.keep K115)
 refine qL (putFN X115 hx hZ hown (W 219) Via.refl e115 f117 f118 (Or.inl (W 220)) (W 204) (ty := .byte) (v' := (.int (1 : Int32))) (by decide) (by decide) (by decide) rfl rfl (Q 21).2) ?_
 intro T119 h119 X119 e119 W119
 have F119 := f117.same W119
 have K119 := Keep.of_wr W119
 have N119 := Fr.snoc X119 N115 (by omega : n0 ≤ a1)
 have zK119 := K119.1
 have KK120 := yF (yF (Keep.refl h111 [a1]) K115) K119
 have f121 := (V111.keep KK120 (yB (by omega) nin0))
 have KK122 := yF (yF (yN (yI (Keep.refl h0 [a1]) K104) K111) K115) K119
 have f123 := (f118.keep K119)
 have f124 := (F115.other W119 (yS (Or.inl (W 218)) (Or.inl (W 220)) (by decide)))
 have KK125 := yF (yF (yF (Keep.refl h104 [b104, a1]) K111) K115) K119
 have f126 := (((f107.keep K111 (yB (by omega) nin0)).other W115 (yS (Or.inl (W 248)) (Or.inl (W 218)) (by decide))).other W119 (yS (Or.inl (W 248)) (Or.inl (W 220)) (by decide)))
 have f127 := ((((F4.keep K104 nin0).keep K111 (yB (by omega) nin0)).other W115 (yS (Or.inl (W 523)) (Or.inl (W 218)) (by decide))).other W119 (yS (Or.inl (W 523)) (Or.inl (W 220)) (by decide)))
 exact uG X119 hlk e119 hret (Q 22) (by decide) ⟨rfl, N119, KK122, b104, _, _, by omega, f123, f124, F119, f126, f127, f121, lp111, wd111⟩
theorem o_keepW {h h' : Heap} {ws ws' : List Nat} (K : Keep h h' ws) (q : ∀ x ∈ ws, x ∈ ws') : Keep h h' ws' := ⟨K.1, fun x c r u => K.2.1 x c r (fun z => u (q x z)), K.2.2⟩
theorem o_bd1 {cs : List Int32} {c : Int32} {P : Int32 → Prop} (h : ∀ c ∈ cs, P c) (q : P c) : ∀ d ∈ cs ++ [c], P d := fun d hd => by
 rcases List.mem_append.mp hd with e | e
 · exact h d e
 · rw [List.mem_singleton.mp e]; exact q
theorem o_bd2 {cs ds : List Int32} {P : Int32 → Prop} (h : ∀ c ∈ cs, P c) (q : ∀ c ∈ ds, P c) : ∀ d ∈ cs ++ ds, P d := fun d hd => (List.mem_append.mp hd).elim (h d) (q d)
theorem o_cnt {cs : List Int32} {c : Int32} (h : cs.length < 2147483647) : ofNat cs.length + (1 : Int32) = ofNat (cs ++ [c]).length := by
 rw [List.length_append, List.length_singleton]; exact uD (b := 1) (by omega)
theorem d76 : yX jdk_68_method_31_code [(0, .aload_n 0, 1), (1, .aload_n 0, 1), (2, .getfield 79, 3), (5, .iconst 1, 1), (6, .iadd, 1), (7, .invokevirtual 100, 3), (10, .aload_n 0, 1), (11, .invokevirtual 83, 3), (14, .ifCond .eq 31, 3), (17, .iload_n 1, 1), (18, .invokestatic 191, 3), (21, .ifCond .eq 24, 3), (45, .aload_n 0, 1), (46, .invokevirtual 83, 3), (49, .ifCond .eq 7, 3), (52, .aload_n 0, 1), (53, .invokevirtual 195, 3), (56, .aload_n 0, 1), (57, .getfield 15, 3), (60, .aload_n 0, 1), (61, .dup, 1), (62, .getfield 79, 3), (65, .dup_x1, 1), (66, .iconst 1, 1), (67, .iadd, 1), (68, .putfield 79, 3), (71, .iload_n 1, 1), (72, .invokestatic 197, 3), (75, .aload_n 0, 1), (76, .areturn, 1), (24, .aload_n 0, 1), (25, .getfield 15, 3), (28, .aload_n 0, 1), (29, .dup, 1), (30, .getfield 79, 3), (33, .dup_x1, 1), (34, .iconst 1, 1), (35, .iadd, 1), (36, .putfield 79, 3), (39, .iload_n 1, 1), (40, .i2b, 1), (41, .bastore, 1), (42, .goto 33, 3)] := by decide +kernel
theorem pd33 : parseMethodDescriptor "()V" = some ⟨[], none⟩ := by decide +kernel
abbrev aacW1R : Room := { frames := 6, cells := 1, slots := 40, locals := 89 }
theorem aacW1 (hw : yQ a0 Z) (a1 t1 : Nat) (k1 : ClassId) (cs : List Int32) (cq : Int32) (O0 : Old Z n0 h0) (CS : uE Z) (UT : uB Z) (FM : uQ Z) (g1 : n0 ≤ a1) (g2 : n0 ≤ t1) (hq : ¬ cq < 0 ∧ ¬ (65535 : Int32) < cq) (hl : cs.length < 16) (S1 : uM Z h0 a1 t1 k1 cs) (hinf : (∀ c ∈ cs, ¬ (255 : Int32) < c) ∧ (255 : Int32) < cq) :
 yZ l Z mN28 jdk_68_method_31_code 2 (some (.object sN4)) [] aacW1R #[(.ref a1), (.int cq)] h0 (fun v h L => v = some (.ref a1) ∧ Fr n0 L ∧ Keep h0 h [a1, t1] ∧ ∃ (t' : Nat) (k' : ClassId), (t' = t1 ∨ h0.size ≤ t') ∧ uM Z h a1 t' k' (cs ++ [cq])) := by
 refine yK (plainFor_of_name pd26) ?_
 intro p e s m below meth c T0 X0 hx hby hml hZ hown hnm hret hlk e0
 have hM := @qK _ _ hml
 have W := qC hw
 have Q := @yR p c _ _ _ hx hby d76
 have N0 := Fr.nil n0
 have zO := yM O0
 have zo := S1
 obtain ⟨E1, cd1, N1, vs1, F1, F2, F3, F4, A1, r1, hbd1, hne1⟩ := zo
 have hlt1 := S1.lt
 refine yP 0 rfl rfl ?_
 refine yG m 0 #[rv a1, iv cq] [] ?_
 rcases r1 with ⟨rfl, rfl, hvl1, hlt_, hlat1⟩ | ⟨rfl, rfl, hvl1, hwd_, cw1, hcm1, hcw1⟩
 · refine yG m 0 #[rv a1, iv cq] [] ?_
   refine yA (fun _ z_ => yC X0 (Q 0) rfl rfl (yC X0 (Q 1) rfl rfl z_)) ?_
   refine yO (yV X0 hZ hown (W 247) e0 F3 rfl rfl (Q 2)) ?_
   intro T101 X101 e101
   refine yA (fun _ z_ => yH X101 (Q 3) (XS.iadd X101.here hx rfl (Q 4).2 rfl z_)) ?_
   refine yG m 7 #[rv a1, iv cq] [(.int ((ofNat cs.length) + (1 : Int32))), (.ref a1)] ?_
   rw [show ofNat cs.length + (1 : Int32) = ofNat (cs.length + 1) from uD (b := 1) (by omega)]
   refine yL (o_cP X101 hZ (y := mN2) hown (W 249) (W 250) (o_NIs (y := mN2) (W 252)) (W 251) (W 253) (W 213) 0 (ecW hw a1 t1 k1 cs (cs.length + 1) O0 (by omega) S1) e101 E1 (by decide) rfl (hM rfl) [(.int (ofNat (cs.length + 1)))] (rest := []) pd27 rfl rfl rfl rfl rfl (Q 5)) ?_
   rintro T102 _ _ h102 X102 e102 ⟨rfl, N102q, hq102⟩
   replace e102 := e102.trans hq102
   have N102 := Fr.app N0 N102q
   refine yA (fun _ z_ => yC X102 (Q 6) rfl rfl z_) ?_
   refine yL (qZ X102 hZ (y := mN4) hown (W 260) (W 261) (W 263) (W 262) (W 264) (W 213) 0 (al0 hw a1 O0 CS F2) e102 E1 (by decide) rfl (hM rfl) [] (rest := []) pd16 rfl rfl rfl rfl rfl (Q 7)) ?_
   rintro T103 _ _ h103 X103 e103 ⟨rfl, N103q, hq103⟩
   replace e103 := e103.trans hq103
   have N103 := Fr.app N102 N103q
   refine yA (fun _ z_ => qA X103 (Q 8) rfl ((if0 _ _).trans (feq (by decide)).1) (yE X103 (Q 9) rfl z_)) ?_
   have zo := Classical.em ((255 : Int32) < cq)
   rcases zo with hwc | hnc
   · refine yG m 18 #[rv a1, iv cq] [(.int cq)] ?_
     refine yL (qD X103 hZ (y := mN12) hown (W 441) (W 442) (W 63) (W 443) 0 (ca0 hw cq O0 hwc) e103 (by decide) rfl (hM rfl) [(.int cq)] (rest := []) pd22 rfl rfl rfl rfl rfl (Q 10)) ?_
     rintro T104 _ _ h104 X104 e104 ⟨rfl, N104q, hq104⟩
     replace e104 := e104.trans hq104
     have N104 := Fr.app N103 N104q
     refine yA (fun _ z_ => qF X104 21 45 rfl (Q 11) rfl ((if0 _ _).trans (teq (by decide)).1) (by decide) (yC X104 (Q 12) rfl rfl z_)) ?_
     refine yL (qZ X104 hZ (y := mN4) hown (W 260) (W 261) (W 263) (W 262) (W 264) (W 213) 0 (al0 hw a1 O0 CS F2) e104 E1 (by decide) rfl (hM rfl) [] (rest := []) pd16 rfl rfl rfl rfl rfl (Q 13)) ?_
     rintro T105 _ _ h105 X105 e105 ⟨rfl, N105q, hq105⟩
     replace e105 := e105.trans hq105
     have N105 := Fr.app N104 N105q
     refine yA (fun _ z_ => qA X105 (Q 14) rfl ((if0 _ _).trans (feq (by decide)).1) (yC X105 (Q 15) rfl rfl z_)) ?_
     refine yL (o_cP X105 hZ (y := mN49) hown (W 498) (W 499) (o_NIs (y := mN2) (W 252)) (W 500) (W 502) (W 213) 0 (ifB hw a1 t1 _ cs vs1 O0 CS UT FM (by omega) (fun c hc => ⟨(hbd1 c hc).1, hlat1 c hc⟩) hvl1 hlt_ (by omega) (by omega) E1 F1 F2 F3 F4 A1) e105 E1 (by decide) rfl (hM rfl) [] (rest := []) pd33 rfl rfl rfl rfl rfl (Q 16)) ?_
     rintro T106 _ _ h106 X106 e106 ⟨rfl, N106q, K106, b106, kb106, vd106, zb106, E106, Fa106, Fb106, Fc106, Fd106, V106, lp106, wd106⟩
     have zK106 := K106.1
     have N106 := Fr.app N105 N106q
     have lb106 := o_l V106.lt
     refine yA (fun _ z_ => yC X106 (Q 17) rfl rfl z_) ?_
     refine yO (yV X106 hZ hown (W 217) e106 Fa106 rfl rfl (Q 18)) ?_
     intro T107 X107 e107
     refine yA (fun _ z_ => yC X107 (Q 19) rfl rfl (qJ X107 (Q 20) rfl rfl z_)) ?_
     refine yO (yV X107 hZ hown (W 247) e107 Fc106 rfl rfl (Q 21)) ?_
     intro T108 X108 e108
     refine yA (fun _ z_ => XS.dupX1 X108.here hx rfl (Q 22).2 rfl rfl rfl (yH X108 (Q 23) (XS.iadd X108.here hx rfl (Q 24).2 rfl z_))) ?_
     refine yG m 68 #[rv a1, iv cq] [(.int ((ofNat cs.length) + (1 : Int32))), (.ref a1), (.int (ofNat cs.length)), (.ref b106)] ?_
     rw [o_cnt (c := cq) (by omega)]
     refine qL (putF X108 hx hZ hown (host := "") (Or.inl (W 247)) Via.refl e108 Fc106 E106 (Or.inl (W 248)) (W 204) (ty := .int) (by decide) rfl rfl rfl rfl (Q 25).2) ?_
     intro T109 h109 X109 e109 W109
     have F109 := Fc106.same W109
     have K109 := Keep.of_wr W109
     have N109 := Fr.snoc X109 N106 (by omega : n0 ≤ a1)
     have zK109 := K109.1
     refine yA (fun _ z_ => yE X109 (Q 26) rfl z_) ?_
     have KK110 := yF (yF (Keep.refl h0 [a1]) K106) K109
     have O111 : Old Z n0 h109 := O0.keep KK110 (allS (by omega) all0)
     have f112 := (V106.keep K109 (yB (by omega) nin0))
     refine yL (qD X109 hZ (y := mN48) hown (W 519) (W 520) (W 24) (W 521) 0 (psW hw b106 _ cq cs.length vd106 O111 UT FM (by omega) (by omega) lp106 f112) e109 (by decide) rfl (hM rfl) [(.ref b106), (.int (ofNat cs.length)), (.int cq)] (rest := []) pd3 rfl rfl rfl rfl rfl (Q 27)) ?_
     rintro T113 _ _ h113 X113 e113 ⟨rfl, N113q, K113, V113⟩
     have zK113 := K113.1
     have N113 := Fr.app N109 N113q
     have lp113 : ((vd106.set (2 * cs.length) (.int (StrChars.lo8 cq))).set (2 * cs.length + 1) (.int (StrChars.hi8 cq))).length = 2 * 16 := by rw [List.length_set, List.length_set]; exact lp106
     refine yA (fun _ z_ => yC X113 (Q 28) rfl rfl z_) ?_
     have KK114 := yN (yF (yF (Keep.refl h0 [a1]) K106) K109) K113
     have KK115 := yF (yF (Keep.refl h106 [a1, b106]) K109) K113
     have f116 := (E106.keep KK115)
     have f117 := ((Fa106.other W109 (yS (Or.inl (W 218)) (Or.inl (W 248)) (by decide))).keep K113 (yB (by omega) nin0))
     have f118 := ((Fb106.other W109 (yS (Or.inl (W 220)) (Or.inl (W 248)) (by decide))).keep K113 (yB (by omega) nin0))
     have f119 := (F109.keep K113 (yB (by omega) nin0))
     have f120 := ((Fd106.other W109 (yS (Or.inl (W 523)) (Or.inl (W 248)) (by decide))).keep K113 (yB (by omega) nin0))
     exact yW X113 hlk e113 hret rfl (uA rfl rfl) (Q 29) (by decide) ⟨rfl, N113, (o_keepW KK114 (by simp)), b106, _, (Or.inr (by omega)), f116, _, _, _, f117, f118, f119, f120, V113, Or.inr ⟨rfl, rfl, lp113, wd106.put (by omega) cq, cq, by simp, hwc⟩, o_bd1 hbd1 hq, by omega⟩
   · exact absurd hinf.2 hnc
 · exact absurd hcw1 (hinf.1 cw1 hcm1)
theorem d75 : yX jdk_67_method_14_code [(0, .aload_n 0, 1), (1, .iload_n 1, 1), (2, .invokespecial 50, 3), (5, .pop, 1), (6, .aload_n 0, 1), (7, .areturn, 1)] := by decide +kernel
theorem pd34 : parseMethodDescriptor "(C)Ljava/lang/AbstractStringBuilder;" = some ⟨[.char], some (.object sN4)⟩ := by decide +kernel
abbrev sacW1R : Room := { frames := 7, cells := 1, slots := 40, locals := 102 }
theorem sacW1 (hw : yQ a0 Z) (a1 t1 : Nat) (k1 : ClassId) (cs : List Int32) (cq : Int32) (O0 : Old Z n0 h0) (CS : uE Z) (UT : uB Z) (FM : uQ Z) (g1 : n0 ≤ a1) (g2 : n0 ≤ t1) (hq : ¬ cq < 0 ∧ ¬ (65535 : Int32) < cq) (hl : cs.length < 16) (S1 : uM Z h0 a1 t1 k1 cs) (hinf : (∀ c ∈ cs, ¬ (255 : Int32) < c) ∧ (255 : Int32) < cq) :
 yZ l Z mN6 jdk_67_method_14_code 2 (some (.object sN14)) [] sacW1R #[(.ref a1), (.int cq)] h0 (fun v h L => v = some (.ref a1) ∧ Fr n0 L ∧ Keep h0 h [a1, t1] ∧ ∃ (t' : Nat) (k' : ClassId), (t' = t1 ∨ h0.size ≤ t') ∧ uM Z h a1 t' k' (cs ++ [cq])) := by
 refine yK (plainFor_of_name pd28) ?_
 intro p e s m below meth c T0 X0 hx hby hml hZ hown hnm hret hlk e0
 have hM := @qK _ _ hml
 have W := qC hw
 have Q := @yR p c _ _ _ hx hby d75
 have N0 := Fr.nil n0
 have zO := yM O0
 have hlt1 := S1.lt
 refine yP 0 rfl rfl ?_
 refine yG m 0 #[rv a1, iv cq] [] ?_
 refine yA (fun _ z_ => yC X0 (Q 0) rfl rfl (yE X0 (Q 1) rfl z_)) ?_
 refine yL (o_callU X0 hx hZ (y := mN28) hown (W 437) (o_same (o_NIs (y := mN2) (W 252)) (W 438) (by decide)) (W 438) (W 232) (by decide) (W 440) (qY (W := 0) (aacW1 hw a1 t1 k1 cs cq O0 CS UT FM (by omega) (by omega) hq hl S1 hinf) hZ (W 440) (W 213) (by decide) (by decide)) e0 S1.1 (by decide) (by decide) rfl (hM rfl) (argsL := [(.int cq)]) (rest := []) (lenOf pd34 rfl) rfl rfl (qE rfl rfl) (Q 2).2) ?_
 rintro T101 _ _ h101 X101 e101 ⟨rfl, N101q, K101, t101, kb101, zt101, S101⟩
 have zK101 := K101.1
 have N101 := Fr.app N0 N101q
 have ls101 := S101.lt
 have E101 := S101.1
 refine yA (fun _ z_ => XS.pop X101.here hx rfl (Q 3).2 rfl rfl (yC X101 (Q 4) rfl rfl z_)) ?_
 exact yW X101 hlk e101 hret rfl (uA rfl rfl) (Q 5) (by decide) ⟨rfl, N101, K101, _, _, zt101, S101⟩
abbrev aacW0R : Room := { frames := 4, cells := 0, slots := 0, locals := 54 }
theorem aacW0 (hw : yQ a0 Z) (a1 t1 : Nat) (k1 : ClassId) (cs : List Int32) (cq : Int32) (O0 : Old Z n0 h0) (CS : uE Z) (UT : uB Z) (FM : uQ Z) (g1 : n0 ≤ a1) (g2 : n0 ≤ t1) (hq : ¬ cq < 0 ∧ ¬ (65535 : Int32) < cq) (hl : cs.length < 16) (S1 : uM Z h0 a1 t1 k1 cs) (hni : (∃ c ∈ cs, (255 : Int32) < c) ∨ ¬ (255 : Int32) < cq) :
 yZ l Z mN28 jdk_68_method_31_code 2 (some (.object sN4)) [] aacW0R #[(.ref a1), (.int cq)] h0 (fun v h L => v = some (.ref a1) ∧ Fr n0 L ∧ Keep h0 h [a1, t1] ∧ ∃ (t' : Nat) (k' : ClassId), (t' = t1 ∨ h0.size ≤ t') ∧ uM Z h a1 t' k' (cs ++ [cq])) := by
 refine yK (plainFor_of_name pd26) ?_
 intro p e s m below meth c T0 X0 hx hby hml hZ hown hnm hret hlk e0
 have hM := @qK _ _ hml
 have W := qC hw
 have Q := @yR p c _ _ _ hx hby d76
 have N0 := Fr.nil n0
 have zO := yM O0
 have zo := S1
 obtain ⟨E1, cd1, N1, vs1, F1, F2, F3, F4, A1, r1, hbd1, hne1⟩ := zo
 have hlt1 := S1.lt
 refine yP 0 rfl rfl ?_
 refine yG m 0 #[rv a1, iv cq] [] ?_
 rcases r1 with ⟨rfl, rfl, hvl1, hlt_, hlat1⟩ | ⟨rfl, rfl, hvl1, hwd_, cw1, hcm1, hcw1⟩
 · refine yG m 0 #[rv a1, iv cq] [] ?_
   refine yA (fun _ z_ => yC X0 (Q 0) rfl rfl (yC X0 (Q 1) rfl rfl z_)) ?_
   refine yO (yV X0 hZ hown (W 247) e0 F3 rfl rfl (Q 2)) ?_
   intro T101 X101 e101
   refine yA (fun _ z_ => yH X101 (Q 3) (XS.iadd X101.here hx rfl (Q 4).2 rfl z_)) ?_
   refine yG m 7 #[rv a1, iv cq] [(.int ((ofNat cs.length) + (1 : Int32))), (.ref a1)] ?_
   rw [show ofNat cs.length + (1 : Int32) = ofNat (cs.length + 1) from uD (b := 1) (by omega)]
   refine yL (o_cP X101 hZ (y := mN2) hown (W 249) (W 250) (o_NIs (y := mN2) (W 252)) (W 251) (W 253) (W 213) 0 (ecW hw a1 t1 k1 cs (cs.length + 1) O0 (by omega) S1) e101 E1 (by decide) rfl (hM rfl) [(.int (ofNat (cs.length + 1)))] (rest := []) pd27 rfl rfl rfl rfl rfl (Q 5)) ?_
   rintro T102 _ _ h102 X102 e102 ⟨rfl, N102q, hq102⟩
   replace e102 := e102.trans hq102
   have N102 := Fr.app N0 N102q
   refine yA (fun _ z_ => yC X102 (Q 6) rfl rfl z_) ?_
   refine yL (qZ X102 hZ (y := mN4) hown (W 260) (W 261) (W 263) (W 262) (W 264) (W 213) 0 (al0 hw a1 O0 CS F2) e102 E1 (by decide) rfl (hM rfl) [] (rest := []) pd16 rfl rfl rfl rfl rfl (Q 7)) ?_
   rintro T103 _ _ h103 X103 e103 ⟨rfl, N103q, hq103⟩
   replace e103 := e103.trans hq103
   have N103 := Fr.app N102 N103q
   refine yA (fun _ z_ => qA X103 (Q 8) rfl ((if0 _ _).trans (feq (by decide)).1) (yE X103 (Q 9) rfl z_)) ?_
   have zo := Classical.em ((255 : Int32) < cq)
   rcases zo with hwc | hnc
   · exact hni.elim (fun ⟨c, q1, q2⟩ => absurd q2 (hlat1 c q1)) (fun q => absurd hwc q)
   · refine yG m 18 #[rv a1, iv cq] [(.int cq)] ?_
     refine yL (qD X103 hZ (y := mN12) hown (W 441) (W 442) (W 63) (W 443) 0 (ca1 hw cq O0 hnc) e103 (by decide) rfl (hM rfl) [(.int cq)] (rest := []) pd22 rfl rfl rfl rfl rfl (Q 10)) ?_
     rintro T104 _ _ h104 X104 e104 ⟨rfl, N104q, hq104⟩
     replace e104 := e104.trans hq104
     have N104 := Fr.app N103 N104q
     refine yA (fun _ z_ => qA X104 (Q 11) rfl ((if0 _ _).trans (feq (by decide)).1) (yC X104 (Q 30) rfl rfl z_)) ?_
     refine yO (yV X104 hZ hown (W 217) e104 F1 rfl rfl (Q 31)) ?_
     intro T105 X105 e105
     refine yA (fun _ z_ => yC X105 (Q 32) rfl rfl (qJ X105 (Q 33) rfl rfl z_)) ?_
     refine yO (yV X105 hZ hown (W 247) e105 F3 rfl rfl (Q 34)) ?_
     intro T106 X106 e106
     refine yA (fun _ z_ => XS.dupX1 X106.here hx rfl (Q 35).2 rfl rfl rfl (yH X106 (Q 36) (XS.iadd X106.here hx rfl (Q 37).2 rfl z_))) ?_
     refine yG m 36 #[rv a1, iv cq] [(.int ((ofNat cs.length) + (1 : Int32))), (.ref a1), (.int (ofNat cs.length)), (.ref t1)] ?_
     rw [o_cnt (c := cq) (by omega)]
     refine qL (putF X106 hx hZ hown (host := "") (Or.inl (W 247)) Via.refl e106 F3 E1 (Or.inl (W 248)) (W 204) (ty := .int) (by decide) rfl rfl rfl rfl (Q 38).2) ?_
     intro T107 h107 X107 e107 W107
     have F107 := F3.same W107
     have K107 := Keep.of_wr W107
     have N107 := Fr.snoc X107 N104 (by omega : n0 ≤ a1)
     have zK107 := K107.1
     refine yA (fun _ z_ => yE X107 (Q 39) rfl (XS.i2b X107.here hx rfl (Q 40).2 rfl z_)) ?_
     refine yG m 41 #[rv a1, iv cq] [(.int (cq.toInt8.toInt32)), (.int (ofNat cs.length)), (.ref t1)] ?_
     show  uR p e below s _ _ _ (T107.setTop (mkF m 41 #[rv a1, iv cq] [(.int (StrChars.lo8 cq)), (.int (ofNat cs.length)), (.ref t1)]))
     have f108 := (A1.keep K107 (yB (by omega) nin0))
     obtain ⟨c109, Ar109, q109, S109, M109, H109, U109⟩ := f108
     refine qL (stB X107 hx hZ e107 Ar109 (j := (ofNat cs.length)) (inb_of S109 ⟨uK (by omega), (qP (by omega) (by omega)).mpr hl⟩) rfl rfl (Q 41).2) ?_
     intro T109 h109 X109 e109 W109
     have V109 := Arv.set Ar109 q109 S109 M109 H109 U109 (fits_nar_byte _) W109 cs.length (qU (by omega)) (by omega)
     rw [o_narB] at V109
     have K109 := Keep.of_wr W109
     have N109 := Fr.snoc X109 N107 (by omega : n0 ≤ t1)
     have zK109 := K109.1
     refine yA (fun _ z_ => yT X109 42 75 rfl (Q 42) (by decide) (yC X109 (Q 28) rfl rfl z_)) ?_
     have KK110 := yF (yF (Keep.refl h0 [a1, t1]) K107) K109
     have f111 := (E1.keep KK110)
     have f112 := ((F1.other W107 (yS (Or.inl (W 218)) (Or.inl (W 248)) (by decide))).keep K109 (yB (by omega) nin0))
     have f113 := ((F2.other W107 (yS (Or.inl (W 220)) (Or.inl (W 248)) (by decide))).keep K109 (yB (by omega) nin0))
     have f114 := (F107.keep K109 (yB (by omega) nin0))
     have f115 := ((F4.other W107 (yS (Or.inl (W 523)) (Or.inl (W 248)) (by decide))).keep K109 (yB (by omega) nin0))
     exact yW X109 hlk e109 hret rfl (uA rfl rfl) (Q 29) (by decide) ⟨rfl, N109, KK110, t1, _, (Or.inl rfl), f111, _, _, _, f112, f113, f114, f115, V109, Or.inl ⟨rfl, rfl, by rw [List.length_set]; exact hvl1, hlt_.put (by omega) cq, o_bd1 hlat1 hnc⟩, o_bd1 hbd1 hq, hne1⟩
 · refine yG m 0 #[rv a1, iv cq] [] ?_
   refine yA (fun _ z_ => yC X0 (Q 0) rfl rfl (yC X0 (Q 1) rfl rfl z_)) ?_
   refine yO (yV X0 hZ hown (W 247) e0 F3 rfl rfl (Q 2)) ?_
   intro T116 X116 e116
   refine yA (fun _ z_ => yH X116 (Q 3) (XS.iadd X116.here hx rfl (Q 4).2 rfl z_)) ?_
   refine yG m 7 #[rv a1, iv cq] [(.int ((ofNat cs.length) + (1 : Int32))), (.ref a1)] ?_
   rw [show ofNat cs.length + (1 : Int32) = ofNat (cs.length + 1) from uD (b := 1) (by omega)]
   refine yL (o_cP X116 hZ (y := mN2) hown (W 249) (W 250) (o_NIs (y := mN2) (W 252)) (W 251) (W 253) (W 213) 0 (ecW hw a1 t1 k1 cs (cs.length + 1) O0 (by omega) S1) e116 E1 (by decide) rfl (hM rfl) [(.int (ofNat (cs.length + 1)))] (rest := []) pd27 rfl rfl rfl rfl rfl (Q 5)) ?_
   rintro T117 _ _ h117 X117 e117 ⟨rfl, N117q, hq117⟩
   replace e117 := e117.trans hq117
   have N117 := Fr.app N0 N117q
   refine yA (fun _ z_ => yC X117 (Q 6) rfl rfl z_) ?_
   refine yL (qZ X117 hZ (y := mN4) hown (W 260) (W 261) (W 263) (W 262) (W 264) (W 213) 0 (al1 hw a1 O0 CS F2) e117 E1 (by decide) rfl (hM rfl) [] (rest := []) pd16 rfl rfl rfl rfl rfl (Q 7)) ?_
   rintro T118 _ _ h118 X118 e118 ⟨rfl, N118q, hq118⟩
   replace e118 := e118.trans hq118
   have N118 := Fr.app N117 N118q
   refine yA (fun _ z_ => qF X118 14 45 rfl (Q 8) rfl ((if0 _ _).trans (teq (by decide)).1) (by decide) (yC X118 (Q 12) rfl rfl z_)) ?_
   refine yL (qZ X118 hZ (y := mN4) hown (W 260) (W 261) (W 263) (W 262) (W 264) (W 213) 0 (al1 hw a1 O0 CS F2) e118 E1 (by decide) rfl (hM rfl) [] (rest := []) pd16 rfl rfl rfl rfl rfl (Q 13)) ?_
   rintro T119 _ _ h119 X119 e119 ⟨rfl, N119q, hq119⟩
   replace e119 := e119.trans hq119
   have N119 := Fr.app N118 N119q
   refine yA (fun _ z_ => qF X119 49 56 rfl (Q 14) rfl ((if0 _ _).trans (teq (by decide)).1) (by decide) (yC X119 (Q 17) rfl rfl z_)) ?_
   refine yO (yV X119 hZ hown (W 217) e119 F1 rfl rfl (Q 18)) ?_
   intro T120 X120 e120
   refine yA (fun _ z_ => yC X120 (Q 19) rfl rfl (qJ X120 (Q 20) rfl rfl z_)) ?_
   refine yO (yV X120 hZ hown (W 247) e120 F3 rfl rfl (Q 21)) ?_
   intro T121 X121 e121
   refine yA (fun _ z_ => XS.dupX1 X121.here hx rfl (Q 22).2 rfl rfl rfl (yH X121 (Q 23) (XS.iadd X121.here hx rfl (Q 24).2 rfl z_))) ?_
   refine yG m 68 #[rv a1, iv cq] [(.int ((ofNat cs.length) + (1 : Int32))), (.ref a1), (.int (ofNat cs.length)), (.ref t1)] ?_
   rw [o_cnt (c := cq) (by omega)]
   refine qL (putF X121 hx hZ hown (host := "") (Or.inl (W 247)) Via.refl e121 F3 E1 (Or.inl (W 248)) (W 204) (ty := .int) (by decide) rfl rfl rfl rfl (Q 25).2) ?_
   intro T122 h122 X122 e122 W122
   have F122 := F3.same W122
   have K122 := Keep.of_wr W122
   have N122 := Fr.snoc X122 N119 (by omega : n0 ≤ a1)
   have zK122 := K122.1
   refine yA (fun _ z_ => yE X122 (Q 26) rfl z_) ?_
   have O123 : Old Z n0 h122 := O0.keep K122 (allS (by omega) all0)
   have f124 := (A1.keep K122 (yB (by omega) nin0))
   refine yL (qD X122 hZ (y := mN48) hown (W 519) (W 520) (W 24) (W 521) 0 (psW hw t1 _ cq cs.length vs1 O123 UT FM (by omega) (by omega) hvl1 f124) e122 (by decide) rfl (hM rfl) [(.ref t1), (.int (ofNat cs.length)), (.int cq)] (rest := []) pd3 rfl rfl rfl rfl rfl (Q 27)) ?_
   rintro T125 _ _ h125 X125 e125 ⟨rfl, N125q, K125, V125⟩
   have zK125 := K125.1
   have N125 := Fr.app N122 N125q
   have lp125 : ((vs1.set (2 * cs.length) (.int (StrChars.lo8 cq))).set (2 * cs.length + 1) (.int (StrChars.hi8 cq))).length = 2 * 16 := by rw [List.length_set, List.length_set]; exact hvl1
   refine yA (fun _ z_ => yC X125 (Q 28) rfl rfl z_) ?_
   have KK126 := yF (yF (Keep.refl h0 [a1, t1]) K122) K125
   have f127 := (E1.keep KK126)
   have f128 := ((F1.other W122 (yS (Or.inl (W 218)) (Or.inl (W 248)) (by decide))).keep K125 (yB (by omega) nin0))
   have f129 := ((F2.other W122 (yS (Or.inl (W 220)) (Or.inl (W 248)) (by decide))).keep K125 (yB (by omega) nin0))
   have f130 := (F122.keep K125 (yB (by omega) nin0))
   have f131 := ((F4.other W122 (yS (Or.inl (W 523)) (Or.inl (W 248)) (by decide))).keep K125 (yB (by omega) nin0))
   exact yW X125 hlk e125 hret rfl (uA rfl rfl) (Q 29) (by decide) ⟨rfl, N125, KK126, t1, _, (Or.inl rfl), f127, _, _, _, f128, f129, f130, f131, V125, Or.inr ⟨rfl, rfl, lp125, hwd_.put (by omega) cq, cw1, by simp [hcm1], hcw1⟩, o_bd1 hbd1 hq, hne1⟩
abbrev sacW0R : Room := { frames := 5, cells := 0, slots := 0, locals := 67 }
theorem sacW0 (hw : yQ a0 Z) (a1 t1 : Nat) (k1 : ClassId) (cs : List Int32) (cq : Int32) (O0 : Old Z n0 h0) (CS : uE Z) (UT : uB Z) (FM : uQ Z) (g1 : n0 ≤ a1) (g2 : n0 ≤ t1) (hq : ¬ cq < 0 ∧ ¬ (65535 : Int32) < cq) (hl : cs.length < 16) (S1 : uM Z h0 a1 t1 k1 cs) (hni : (∃ c ∈ cs, (255 : Int32) < c) ∨ ¬ (255 : Int32) < cq) :
 yZ l Z mN6 jdk_67_method_14_code 2 (some (.object sN14)) [] sacW0R #[(.ref a1), (.int cq)] h0 (fun v h L => v = some (.ref a1) ∧ Fr n0 L ∧ Keep h0 h [a1, t1] ∧ ∃ (t' : Nat) (k' : ClassId), (t' = t1 ∨ h0.size ≤ t') ∧ uM Z h a1 t' k' (cs ++ [cq])) := by
 refine yK (plainFor_of_name pd28) ?_
 intro p e s m below meth c T0 X0 hx hby hml hZ hown hnm hret hlk e0
 have hM := @qK _ _ hml
 have W := qC hw
 have Q := @yR p c _ _ _ hx hby d75
 have N0 := Fr.nil n0
 have zO := yM O0
 have hlt1 := S1.lt
 refine yP 0 rfl rfl ?_
 refine yG m 0 #[rv a1, iv cq] [] ?_
 refine yA (fun _ z_ => yC X0 (Q 0) rfl rfl (yE X0 (Q 1) rfl z_)) ?_
 refine yL (o_callU X0 hx hZ (y := mN28) hown (W 437) (o_same (o_NIs (y := mN2) (W 252)) (W 438) (by decide)) (W 438) (W 232) (by decide) (W 440) (qY (W := 0) (aacW0 hw a1 t1 k1 cs cq O0 CS UT FM (by omega) (by omega) hq hl S1 hni) hZ (W 440) (W 213) (by decide) (by decide)) e0 S1.1 (by decide) (by decide) rfl (hM rfl) (argsL := [(.int cq)]) (rest := []) (lenOf pd34 rfl) rfl rfl (qE rfl rfl) (Q 2).2) ?_
 rintro T101 _ _ h101 X101 e101 ⟨rfl, N101q, K101, t101, kb101, zt101, S101⟩
 have zK101 := K101.1
 have N101 := Fr.app N0 N101q
 have ls101 := S101.lt
 have E101 := S101.1
 refine yA (fun _ z_ => XS.pop X101.here hx rfl (Q 3).2 rfl rfl (yC X101 (Q 4) rfl rfl z_)) ?_
 exact yW X101 hlk e101 hret rfl (uA rfl rfl) (Q 5) (by decide) ⟨rfl, N101, K101, _, _, zt101, S101⟩
theorem o_cnt2 {cs tx : List Int32} {i n : Nat} (h : i + n ≤ tx.length) (q : cs.length + n < 2147483648) : ofNat cs.length + ofNat n = ofNat (cs ++ (tx.drop i).take n).length := by
 rw [List.length_append, List.length_take, List.length_drop, show min n (tx.length - i) = n from by omega]; exact uD q
theorem o_ldt {cs tx : List Int32} {i n : Nat} (h : i + n ≤ tx.length) : (cs ++ (tx.drop i).take n).length = cs.length + n := by
 rw [List.length_append, List.length_take, List.length_drop]; omega
theorem o_memg {tx : List Int32} {i u j : Nat} (h1 : i ≤ u) (h2 : u < j) (h3 : j ≤ tx.length) : tx.getD u 0 ∈ (tx.drop i).take (j - i) := by
 rw [← o_subdt (tx := tx) (i := i) (j := u + 1) (k := j) (by omega) (by omega), o_dtS h1 (by omega)]; simp
def o_FMI (Z : State) : Prop := ∃ G : Value, Sta Z Z.heap sN17 "IOOBE_FORMATTER" "Ljava/util/function/BiFunction;" G ∧ G.isRef = true
theorem d44 : yX jdk_42_method_153_code [(0, .aload_n 0, 1), (1, .getfield 9, 3), (4, .areturn, 1)] := by decide +kernel
abbrev svWR : Room := { frames := 0, cells := 0, slots := 0, locals := 0 }
theorem svW (hw : yQ a0 Z) (a1 t1 : Nat) (O0 : Old Z n0 h0) (F1 : Fld Z h0 a1 sN2 "value" "[B" (.ref t1)) :
 yZ l Z mN29 jdk_42_method_153_code 1 (some (.array .byte)) [] svWR #[(.ref a1)] h0 (fun v h L => v = some (.ref t1) ∧ Fr n0 L ∧ h = h0) := by
 refine yK (plainFor_of_name pd8) ?_
 intro p e s m below meth c T0 X0 hx hby hml hZ hown hnm hret hlk e0
 have W := qC hw
 have Q := @yR p c _ _ _ hx hby d44
 have N0 := Fr.nil n0
 have zO := yM O0
 refine yP 0 rfl rfl ?_
 refine yG m 0 #[rv a1] [] ?_
 refine yA (fun _ z_ => yC X0 (Q 0) rfl rfl z_) ?_
 refine yO (yV X0 hZ hown (W 35) e0 F1 rfl rfl (Q 1)) ?_
 intro T101 X101 e101
 exact yW X101 hlk e101 hret rfl (uA rfl rfl) (Q 2) (by decide) ⟨rfl, N0, rfl⟩
theorem d42 : yX jdk_68_method_75_code [(0, .aload_n 0, 1), (1, .invokevirtual 83, 3), (4, .ifCond .eq 141, 3), (7, .aload_n 1, 1), (8, .invokevirtual 400, 3), (11, .ifCond .eq 25, 3), (14, .aload_n 1, 1), (15, .invokevirtual 401, 3), (18, .iload_n 2, 1), (19, .aload_n 0, 1), (20, .getfield 15, 3), (23, .aload_n 0, 1), (24, .getfield 79, 3), (27, .iload_n 3, 1), (28, .iload_n 2, 1), (29, .isub, 1), (30, .invokestatic 309, 3), (33, .goto 161, 3), (194, .aload_n 0, 1), (195, .dup, 1), (196, .getfield 79, 3), (199, .iload_n 3, 1), (200, .iload_n 2, 1), (201, .isub, 1), (202, .iadd, 1), (203, .putfield 79, 3), (206, .return_, 1), (36, .aload_n 0, 1), (37, .getfield 15, 3), (40, .astore 4, 2), (42, .iload_n 2, 1), (43, .istore 5, 2), (45, .aload_n 0, 1), (46, .getfield 79, 3), (49, .istore 6, 2), (51, .iload 5, 2), (53, .iload_n 3, 1), (54, .if_icmp .ge 88, 3), (57, .aload_n 1, 1), (58, .iload 5, 2), (60, .invokevirtual 404, 3), (63, .istore 7, 2), (65, .iload 7, 2), (67, .invokestatic 191, 3), (70, .ifCond .eq 17, 3), (87, .aload_n 0, 1), (88, .iload 6, 2), (90, .putfield 79, 3), (93, .aload_n 0, 1), (94, .invokevirtual 195, 3), (97, .aload_n 1, 1), (98, .invokevirtual 401, 3), (101, .iload 5, 2), (103, .iconst 1, 1), (104, .ishl, 1), (105, .aload_n 0, 1), (106, .getfield 15, 3), (109, .iload 6, 2), (111, .iconst 1, 1), (112, .ishl, 1), (113, .iload_n 3, 1), (114, .iload 5, 2), (116, .isub, 1), (117, .iconst 1, 1), (118, .ishl, 1), (119, .invokestatic 309, 3), (122, .aload_n 0, 1), (123, .dup, 1), (124, .getfield 79, 3), (127, .iload_n 3, 1), (128, .iload 5, 2), (130, .isub, 1), (131, .iadd, 1), (132, .putfield 79, 3), (135, .return_, 1), (73, .aload 4, 2), (75, .iload 6, 2), (77, .iinc 6 1, 3), (80, .iload 7, 2), (82, .i2b, 1), (83, .bastore, 1), (84, .goto 52, 3), (136, .iinc 5 1, 3), (139, .goto (-88), 3), (142, .goto 52, 3), (145, .aload_n 1, 1), (146, .invokevirtual 400, 3), (149, .ifCond .eq 20, 3), (169, .aload_n 1, 1), (170, .invokevirtual 401, 3), (173, .iload_n 2, 1), (174, .iconst 1, 1), (175, .ishl, 1), (176, .aload_n 0, 1), (177, .getfield 15, 3), (180, .aload_n 0, 1), (181, .getfield 79, 3), (184, .iconst 1, 1), (185, .ishl, 1), (186, .iload_n 3, 1), (187, .iload_n 2, 1), (188, .isub, 1), (189, .iconst 1, 1), (190, .ishl, 1), (191, .invokestatic 309, 3)] := by decide +kernel
theorem pd35 : parseMethodDescriptor "()[B" = some ⟨[], some (.array .byte)⟩ := by decide +kernel
abbrev achWR : Room := { frames := 6, cells := 1, slots := 40, locals := 89 }
theorem achW (hw : yQ a0 Z) (a1 t1 a2 t2 : Nat) (k1 : ClassId) (cs tx : List Int32) (i j : Nat) (O0 : Old Z n0 h0) (CS : uE Z) (UT : uB Z) (FM : uQ Z) (g1 : n0 ≤ a1) (g2 : n0 ≤ t1) (hij : i ≤ j) (hj : j ≤ tx.length) (hk : tx.length ≤ 20) (hl : cs.length + (j - i) ≤ 16) (hsub : (∃ c ∈ cs, (255 : Int32) < c) → ∃ c ∈ tx, (255 : Int32) < c) (d1 : a2 ≠ a1) (d2 : a2 ≠ t1) (d3 : t2 ≠ a1) (d4 : t2 ≠ t1) (S1 : uM Z h0 a1 t1 k1 cs) (S2 : yU Z h0 a2 t2 tx) :
 yZ l Z (⟨sN4, "appendChars", "(Ljava/lang/String;II)V"⟩ : MethodName) jdk_68_method_75_code 8 none [] achWR #[(.ref a1), (.ref a2), (.int (ofNat i)), (.int (ofNat j))] h0 (fun v h L => v = none ∧ Fr n0 L ∧ Keep h0 h [a1, t1] ∧ ∃ (t' : Nat) (k' : ClassId), (t' = t1 ∨ h0.size ≤ t') ∧ uM Z h a1 t' k' ((cs ++ (tx.drop i).take (j - i)))) := by
 refine yK (plainFor_of_name pd26) ?_
 intro p e s m below meth c T0 X0 hx hby hml hZ hown hnm hret hlk e0
 have hM := @qK _ _ hml
 have W := qC hw
 have Q := @yR p c _ _ _ hx hby d42
 have N0 := Fr.nil n0
 have zO := yM O0
 have zo := S1
 obtain ⟨E1, cd1, N1, vs1, F1, F2, F3, F4, A1, r1, hbd1, hne1⟩ := zo
 have hlt1 := S1.lt
 have zo := S2
 obtain ⟨E2, k2, cd2, N2, vs2, G1, G2, A2, r2, hbd2, hl2⟩ := zo
 have hlt2 := S2.lt
 refine yP 4 rfl rfl ?_
 refine yG m 0 #[rv a1, rv a2, iv (ofNat i), iv (ofNat j), .unset, .unset, .unset, .unset] [] ?_
 rcases r1 with ⟨rfl, rfl, hvl1, hlt_, hlat1⟩ | ⟨rfl, rfl, hvl1, hwd_, cw1, hcm1, hcw1⟩
 · refine yG m 0 #[rv a1, rv a2, iv (ofNat i), iv (ofNat j), .unset, .unset, .unset, .unset] [] ?_
   rcases r2 with ⟨rfl, rfl, rfl, hlat2⟩ | ⟨rfl, rfl, rfl, cw2, hcm2, hcw2⟩
   · refine yG m 0 #[rv a1, rv a2, iv (ofNat i), iv (ofNat j), .unset, .unset, .unset, .unset] [] ?_
     refine yA (fun _ z_ => yC X0 (Q 0) rfl rfl z_) ?_
     refine yL (qZ X0 hZ (y := mN4) hown (W 260) (W 261) (W 263) (W 262) (W 264) (W 213) 0 (al0 hw a1 O0 CS F2) e0 E1 (by decide) rfl (hM rfl) [] (rest := []) pd16 rfl rfl rfl rfl rfl (Q 1)) ?_
     rintro T101 _ _ h101 X101 e101 ⟨rfl, N101q, hq101⟩
     replace e101 := e101.trans hq101
     have N101 := Fr.app N0 N101q
     refine yA (fun _ z_ => qA X101 (Q 2) rfl ((if0 _ _).trans (feq (by decide)).1) (yC X101 (Q 3) rfl rfl z_)) ?_
     refine yL (qZ X101 hZ (y := mN13) hown (W 265) (W 57) (W 59) (W 58) (W 60) (W 10) 0 (il0 hw a2 O0 CS G2) e101 E2 (by decide) rfl (hM rfl) [] (rest := []) pd16 rfl rfl rfl rfl rfl (Q 4)) ?_
     rintro T102 _ _ h102 X102 e102 ⟨rfl, N102q, hq102⟩
     replace e102 := e102.trans hq102
     have N102 := Fr.app N101 N102q
     refine yA (fun _ z_ => qA X102 (Q 5) rfl ((if0 _ _).trans (feq (by decide)).1) (yC X102 (Q 6) rfl rfl z_)) ?_
     refine yL (qZ X102 hZ (y := mN29) hown (W 266) (W 267) (W 269) (W 268) (W 270) (W 10) 0 (svW hw a2 t2 O0 G1) e102 E2 (by decide) rfl (hM rfl) [] (rest := []) pd35 rfl rfl rfl rfl rfl (Q 7)) ?_
     rintro T103 _ _ h103 X103 e103 ⟨rfl, N103q, hq103⟩
     replace e103 := e103.trans hq103
     have N103 := Fr.app N102 N103q
     refine yA (fun _ z_ => yE X103 (Q 8) rfl (yC X103 (Q 9) rfl rfl z_)) ?_
     refine yO (yV X103 hZ hown (W 217) e103 F1 rfl rfl (Q 10)) ?_
     intro T104 X104 e104
     refine yA (fun _ z_ => yC X104 (Q 11) rfl rfl z_) ?_
     refine yO (yV X104 hZ hown (W 247) e104 F3 rfl rfl (Q 12)) ?_
     intro T105 X105 e105
     refine yA (fun _ z_ => yE X105 (Q 13) rfl (yE X105 (Q 14) rfl (XS.isub X105.here hx rfl (Q 15).2 rfl z_))) ?_
     refine yG m 30 #[rv a1, rv a2, iv (ofNat i), iv (ofNat j), .unset, .unset, .unset, .unset] [(.int ((ofNat j) - (ofNat i))), (.int (ofNat cs.length)), (.ref t1), (.int (ofNat i)), (.ref t2)] ?_
     rw [show ((ofNat j) - (ofNat i)) = (ofNat (j - i)) from o_nsub hij (by omega)]
     have zo := o_cpB X105 hx hZ hown (W 271) (W 274) (W 272) (W 273) e105 A2 A1 (List.length_map _) hvl1 (by omega) (by omega) (by omega) (by omega) N103 (by omega : n0 ≤ t1) (g := (mkF m 30 #[rv a1, rv a2, iv (ofNat i), iv (ofNat j), .unset, .unset, .unset, .unset] [(.int (ofNat (j - i))), (.int (ofNat cs.length)), (.ref t1), (.int (ofNat i)), (.ref t2)])) rfl (hM rfl) rfl (Q 16).2 (by decide) (W := 0) (qE rfl rfl) (by decide)
     obtain ⟨T106, h106, L106, vd106, X106, e106, N106, K106, V106, lp106, tk106, st106⟩ := zo
     refine yA st106 ?_
     have zK106 := K106.1
     refine yA (fun _ z_ => yT X106 33 194 rfl (Q 17) (by decide) (yC X106 (Q 18) rfl rfl (qJ X106 (Q 19) rfl rfl z_))) ?_
     have f107 := (F3.keep K106 (yB (by omega) nin0))
     refine yO (yV X106 hZ hown (W 247) e106 f107 rfl rfl (Q 20)) ?_
     intro T108 X108 e108
     refine yA (fun _ z_ => yE X108 (Q 21) rfl (yE X108 (Q 22) rfl (XS.isub X108.here hx rfl (Q 23).2 rfl (XS.iadd X108.here hx rfl (Q 24).2 rfl z_)))) ?_
     refine yG m 203 #[rv a1, rv a2, iv (ofNat i), iv (ofNat j), .unset, .unset, .unset, .unset] [(.int ((ofNat cs.length) + ((ofNat j) - (ofNat i)))), (.ref a1)] ?_
     rw [show ((ofNat cs.length) + ((ofNat j) - (ofNat i))) = (ofNat (cs ++ (tx.drop i).take (j - i)).length) from (by rw [o_nsub (by omega) (by omega)]; exact o_cnt2 (by omega) (by omega))]
     have f109 := (E1.keep K106)
     refine qL (putF X108 hx hZ hown (host := "") (Or.inl (W 247)) Via.refl e108 f107 f109 (Or.inl (W 248)) (W 204) (ty := .int) (by decide) rfl rfl rfl rfl (Q 25).2) ?_
     intro T110 h110 X110 e110 W110
     have F110 := f107.same W110
     have K110 := Keep.of_wr W110
     have N110 := Fr.snoc X110 N106 (by omega : n0 ≤ a1)
     have zK110 := K110.1
     have KK111 := yF (yF (Keep.refl h0 [t1, a1]) K106) K110
     have f112 := (f109.keep K110)
     have f113 := ((F1.keep K106 (yB (by omega) nin0)).other W110 (yS (Or.inl (W 218)) (Or.inl (W 248)) (by decide)))
     have f114 := ((F2.keep K106 (yB (by omega) nin0)).other W110 (yS (Or.inl (W 220)) (Or.inl (W 248)) (by decide)))
     have f115 := ((F4.keep K106 (yB (by omega) nin0)).other W110 (yS (Or.inl (W 523)) (Or.inl (W 248)) (by decide)))
     have f116 := (V106.keep K110 (yB (by omega) nin0))
     exact uG X110 hlk e110 hret (Q 26) (by decide) ⟨rfl, N110, (o_keepW KK111 (by simp)), t1, _, (Or.inl rfl), f112, _, _, _, f113, f114, F110, f115, f116, Or.inl ⟨rfl, rfl, lp106, hlt_.cpy (by omega) tk106, o_bd2 hlat1 (fun c hc => hlat2 c (o_memdr hc))⟩, o_bd2 hbd1 (fun c hc => hbd2 c (o_memdr hc)), hne1⟩
   · refine yG m 0 #[rv a1, rv a2, iv (ofNat i), iv (ofNat j), .unset, .unset, .unset, .unset] [] ?_
     refine yA (fun _ z_ => yC X0 (Q 0) rfl rfl z_) ?_
     refine yL (qZ X0 hZ (y := mN4) hown (W 260) (W 261) (W 263) (W 262) (W 264) (W 213) 0 (al0 hw a1 O0 CS F2) e0 E1 (by decide) rfl (hM rfl) [] (rest := []) pd16 rfl rfl rfl rfl rfl (Q 1)) ?_
     rintro T117 _ _ h117 X117 e117 ⟨rfl, N117q, hq117⟩
     replace e117 := e117.trans hq117
     have N117 := Fr.app N0 N117q
     refine yA (fun _ z_ => qA X117 (Q 2) rfl ((if0 _ _).trans (feq (by decide)).1) (yC X117 (Q 3) rfl rfl z_)) ?_
     refine yL (qZ X117 hZ (y := mN13) hown (W 265) (W 57) (W 59) (W 58) (W 60) (W 10) 0 (il1 hw a2 O0 CS G2) e117 E2 (by decide) rfl (hM rfl) [] (rest := []) pd16 rfl rfl rfl rfl rfl (Q 4)) ?_
     rintro T118 _ _ h118 X118 e118 ⟨rfl, N118q, hq118⟩
     replace e118 := e118.trans hq118
     have N118 := Fr.app N117 N118q
     refine yA (fun _ z_ => qF X118 11 36 rfl (Q 5) rfl ((if0 _ _).trans (teq (by decide)).1) (by decide) (yC X118 (Q 27) rfl rfl z_)) ?_
     refine yO (yV X118 hZ hown (W 217) e118 F1 rfl rfl (Q 28)) ?_
     intro T119 X119 e119
     refine yA (fun _ z_ => XS.astore X119.here hx rfl (Q 29).2 rfl rfl rfl (yE X119 (Q 30) rfl (qM X119 (Q 31) rfl rfl (yC X119 (Q 32) rfl rfl z_)))) ?_
     refine yO (yV X119 hZ hown (W 247) e119 F3 rfl rfl (Q 33)) ?_
     intro T120 X120 e120
     refine yA (fun _ z_ => qM X120 (Q 34) rfl rfl z_) ?_
     suffices G121 : ∀ (r : Nat) (Tj : State) (Lj : List Loc) (hL121 : Heap) (u : Nat) (v6 : Nat) (vsj : List Value) (sl7 : Slot), (j - u = r) → (Keep h0 hL121 [t1]) → (Arv Z hL121 t1 k1 .byte (ofNat 16) vsj (.int 0)) → (i ≤ u ∧ u ≤ j) → (v6 = cs.length + (u - i)) → (vsj.length = 16) → (uU (cs ++ (tx.drop i).take (u - i)) vsj) → (∀ c ∈ (tx.drop i).take (u - i), ¬ (255 : Int32) < c) → (sl7 = .unset ∨ ∃ w, sl7 = .val w ∧ w.category = 1) → Stand p l e achWR s m #[(.ref a1), (.ref a2), (.int (ofNat i)), (.int (ofNat j))] below meth c Tj Lj 0 0 → Tj.heap = hL121 → Fr n0 Lj → uR p e below s (fun v h L => v = none ∧ Fr n0 L ∧ Keep h0 h [a1, t1] ∧ ∃ (t' : Nat) (k' : ClassId), (t' = t1 ∨ h0.size ≤ t') ∧ uM Z h a1 t' k' ((cs ++ (tx.drop i).take (j - i)))) achWR.cells achWR.slots (Tj.setTop (mkF m 51 #[rv a1, rv a2, iv (ofNat i), iv (ofNat j), rv t1, iv (ofNat u), iv (ofNat v6), sl7] [])) by
      exact G121 _ _ _ _ i cs.length _ _ rfl (Keep.refl _ _) A1 ⟨Nat.le_refl _, hij⟩ (by omega) hvl1 (by rw [Nat.sub_self, List.take_zero, List.append_nil]; exact hlt_) (by rw [Nat.sub_self, List.take_zero]; exact fun c hc => nomatch hc) (Or.inl rfl) X120 e120 N118
     intro r
     induction r using Nat.strongRecOn with
     | _ r ih =>
      intro TG121 LG121 hL121 u v6 vsj sl7 hm KL121 Vj hu hv6 hvj hlj hltj hsl7 XG121 eG121 NG121
      have zKL121 := KL121.1
      refine yA (fun _ z_ => yJ XG121 (Q 35) rfl (yE XG121 (Q 36) rfl z_)) ?_
      by_cases c122 : (ofNat u) < (ofNat j)
      · refine yA (fun _ z_ => qH XG121 (Q 37) rfl (tlt c122).2.1 z_) ?_
        have hlt : u < j := (qP (by omega) (by omega)).mp c122
        have elj : (cs ++ (tx.drop i).take (u - i)).length = v6 := by rw [o_ldt (by omega)]; omega
        refine yA (fun _ z_ => yC XG121 (Q 38) rfl rfl (yJ XG121 (Q 39) rfl z_)) ?_
        have O123 : Old Z n0 hL121 := O0.keep KL121 (allS (by omega) all0)
        have f124 := (S2.keep KL121 (yB (by omega) nin0) (yB (by omega) nin0))
        have f126 := (E2.keep KL121)
        refine yL (qZ XG121 hZ (y := mN8) hown (W 496) (W 52) (W 54) (W 53) (W 55) (W 10) 0 (chA hw a2 tx u O123 CS FM UT (by omega) hk (yU.str f124)) eG121 f126 (by decide) rfl (hM rfl) [(.int (ofNat u))] (rest := []) pd20 rfl rfl rfl rfl rfl (Q 40)) ?_
        rintro T125 _ _ h125 X125 e125 ⟨rfl, N125q, hq125⟩
        replace e125 := e125.trans hq125
        have N125 := Fr.app NG121 N125q
        refine yG m 63 #[rv a1, rv a2, iv (ofNat i), iv (ofNat j), rv t1, iv (ofNat u), iv (ofNat v6), sl7] [(.int (tx.getD u 0))] ?_
        refine yA (fun _ z_ => XS.istoreS X125.here hx rfl (Q 41).2 rfl (o := sl7) rfl hsl7 (yJ X125 (Q 42) rfl z_)) ?_
        have zo := Classical.em ((255 : Int32) < tx.getD u 0)
        rcases zo with hwc | hnc
        · refine yG m 67 #[rv a1, rv a2, iv (ofNat i), iv (ofNat j), rv t1, iv (ofNat u), iv (ofNat v6), iv (tx.getD u 0)] [(.int (tx.getD u 0))] ?_
          refine yL (qD X125 hZ (y := mN12) hown (W 441) (W 442) (W 63) (W 443) 0 (ca0 hw (tx.getD u 0) O123 hwc) e125 (by decide) rfl (hM rfl) [(.int (tx.getD u 0))] (rest := []) pd22 rfl rfl rfl rfl rfl (Q 43)) ?_
          rintro T127 _ _ h127 X127 e127 ⟨rfl, N127q, hq127⟩
          replace e127 := e127.trans hq127
          have N127 := Fr.app N125 N127q
          refine yA (fun _ z_ => qF X127 70 87 rfl (Q 44) rfl ((if0 _ _).trans (teq (by decide)).1) (by decide) (yC X127 (Q 45) rfl rfl (yJ X127 (Q 46) rfl z_))) ?_
          refine yG m 90 #[rv a1, rv a2, iv (ofNat i), iv (ofNat j), rv t1, iv (ofNat u), iv (ofNat v6), iv (tx.getD u 0)] [(.int (ofNat v6)), (.ref a1)] ?_
          rw [show ofNat v6 = ofNat (cs ++ (tx.drop i).take (u - i)).length from by rw [elj]]
          have f128 := (F3.keep KL121 (yB (by omega) nin0))
          have f129 := (E1.keep KL121)
          refine qL (putF X127 hx hZ hown (host := "") (Or.inl (W 247)) Via.refl e127 f128 f129 (Or.inl (W 248)) (W 204) (ty := .int) (by decide) rfl rfl rfl rfl (Q 47).2) ?_
          intro T130 h130 X130 e130 W130
          have F130 := f128.same W130
          have K130 := Keep.of_wr W130
          have N130 := Fr.snoc X130 N127 (by omega : n0 ≤ a1)
          have zK130 := K130.1
          refine yA (fun _ z_ => yC X130 (Q 48) rfl rfl z_) ?_
          have O131 : Old Z n0 h130 := O123.keep K130 (allS (by omega) all0)
          have f132 := (f129.keep K130)
          have KK133 := yF (yF (Keep.refl h0 [t1, a1]) KL121) K130
          have f134 := ((F1.keep KL121 (yB (by omega) nin0)).other W130 (yS (Or.inl (W 218)) (Or.inl (W 248)) (by decide)))
          have f135 := ((F2.keep KL121 (yB (by omega) nin0)).other W130 (yS (Or.inl (W 220)) (Or.inl (W 248)) (by decide)))
          have f136 := ((F4.keep KL121 (yB (by omega) nin0)).other W130 (yS (Or.inl (W 523)) (Or.inl (W 248)) (by decide)))
          have f137 := (Vj.keep K130 (yB (by omega) nin0))
          refine yL (o_cP X130 hZ (y := mN49) hown (W 498) (W 499) (o_NIs (y := mN2) (W 252)) (W 500) (W 502) (W 213) 0 (ifB hw a1 t1 _ (cs ++ (tx.drop i).take (u - i)) vsj O131 CS UT FM (by rw [elj]; omega) (o_bd2 (fun c hc => ⟨(hbd1 c hc).1, hlat1 c hc⟩) (fun c hc => ⟨(hbd2 c (o_memdr hc)).1, hltj c hc⟩)) hvj hlj (by omega) (by omega) f132 f134 f135 F130 f136 f137) e130 f132 (by decide) rfl (hM rfl) [] (rest := []) pd33 rfl rfl rfl rfl rfl (Q 49)) ?_
          rintro T138 _ _ h138 X138 e138 ⟨rfl, N138q, K138, b138, kb138, vd138, zb138, E138, Fa138, Fb138, Fc138, Fd138, V138, lp138, wd138⟩
          have zK138 := K138.1
          have N138 := Fr.app N130 N138q
          have lb138 := o_l V138.lt
          refine yA (fun _ z_ => yC X138 (Q 50) rfl rfl z_) ?_
          have O139 : Old Z n0 h138 := O131.keep K138 (allS (by omega) all0)
          have KK140 := yF (yF (yF (Keep.refl h0 [t1, a1]) KL121) K130) K138
          have f141 := (G1.keep KK140 (yB (by omega) (yB (by omega) nin0)))
          have KK143 := yF (yF (Keep.refl hL121 [a1]) K130) K138
          have f144 := (f126.keep KK143)
          refine yL (qZ X138 hZ (y := mN29) hown (W 266) (W 267) (W 269) (W 268) (W 270) (W 10) 0 (svW hw a2 t2 O139 f141) e138 f144 (by decide) rfl (hM rfl) [] (rest := []) pd35 rfl rfl rfl rfl rfl (Q 51)) ?_
          rintro T142 _ _ h142 X142 e142 ⟨rfl, N142q, hq142⟩
          replace e142 := e142.trans hq142
          have N142 := Fr.app N138 N142q
          refine yA (fun _ z_ => yJ X142 (Q 52) rfl (yH X142 (Q 53) (XS.ishl X142.here hx rfl (Q 54).2 rfl (yC X142 (Q 55) rfl rfl z_)))) ?_
          refine yO (yV X142 hZ hown (W 217) e142 Fa138 rfl rfl (Q 56)) ?_
          intro T145 X145 e145
          refine yA (fun _ z_ => yJ X145 (Q 57) rfl (yH X145 (Q 58) (XS.ishl X145.here hx rfl (Q 59).2 rfl (yE X145 (Q 60) rfl (yJ X145 (Q 61) rfl (XS.isub X145.here hx rfl (Q 62).2 rfl z_)))))) ?_
          refine yA (fun _ z_ => yH X145 (Q 63) (XS.ishl X145.here hx rfl (Q 64).2 rfl z_)) ?_
          refine yG m 119 #[rv a1, rv a2, iv (ofNat i), iv (ofNat j), rv t1, iv (ofNat u), iv (ofNat (cs ++ (tx.drop i).take (u - i)).length), iv (tx.getD u 0)] [(.int (((ofNat j) - (ofNat u)) <<< ((1 : Int32) &&& 31))), (.int ((ofNat (cs ++ (tx.drop i).take (u - i)).length) <<< ((1 : Int32) &&& 31))), (.ref b138), (.int ((ofNat u) <<< ((1 : Int32) &&& 31))), (.ref t2)] ?_
          rw [show (((ofNat j) - (ofNat u)) <<< ((1 : Int32) &&& 31)) = (ofNat (2 * (j - u))) from (by rw [o_nsub (by omega) (by omega)]; exact o_shl (by omega))]
          refine yG m 119 #[rv a1, rv a2, iv (ofNat i), iv (ofNat j), rv t1, iv (ofNat u), iv (ofNat (cs ++ (tx.drop i).take (u - i)).length), iv (tx.getD u 0)] [(.int (ofNat (2 * (j - u)))), (.int ((ofNat (cs ++ (tx.drop i).take (u - i)).length) <<< ((1 : Int32) &&& 31))), (.ref b138), (.int ((ofNat u) <<< ((1 : Int32) &&& 31))), (.ref t2)] ?_
          rw [show ((ofNat (cs ++ (tx.drop i).take (u - i)).length) <<< ((1 : Int32) &&& 31)) = (ofNat (2 * (cs ++ (tx.drop i).take (u - i)).length)) from (o_shl (by omega))]
          refine yG m 119 #[rv a1, rv a2, iv (ofNat i), iv (ofNat j), rv t1, iv (ofNat u), iv (ofNat (cs ++ (tx.drop i).take (u - i)).length), iv (tx.getD u 0)] [(.int (ofNat (2 * (j - u)))), (.int (ofNat (2 * (cs ++ (tx.drop i).take (u - i)).length))), (.ref b138), (.int ((ofNat u) <<< ((1 : Int32) &&& 31))), (.ref t2)] ?_
          rw [show ((ofNat u) <<< ((1 : Int32) &&& 31)) = (ofNat (2 * u)) from (o_shl (by omega))]
          have f146 := (A2.keep KK140 (yB (by omega) (yB (by omega) nin0)))
          have zo := o_cpB X145 hx hZ hown (W 271) (W 274) (W 272) (W 273) e145 f146 V138 (o_wlen tx) lp138 (by omega) (by omega) (by omega) (by omega) N142 (by omega : n0 ≤ b138) (g := (mkF m 119 #[rv a1, rv a2, iv (ofNat i), iv (ofNat j), rv t1, iv (ofNat u), iv (ofNat (cs ++ (tx.drop i).take (u - i)).length), iv (tx.getD u 0)] [(.int (ofNat (2 * (j - u)))), (.int (ofNat (2 * (cs ++ (tx.drop i).take (u - i)).length))), (.ref b138), (.int (ofNat (2 * u))), (.ref t2)])) rfl (hM rfl) rfl (Q 65).2 (by decide) (W := 0) (qE rfl rfl) (by decide)
          obtain ⟨T147, h147, L147, vd147, X147, e147, N147, K147, V147, lp147, tk147, st147⟩ := zo
          refine yA st147 ?_
          have zK147 := K147.1
          refine yG m 122 #[rv a1, rv a2, iv (ofNat i), iv (ofNat j), rv t1, iv (ofNat u), iv (ofNat (cs ++ (tx.drop i).take (u - i)).length), iv (tx.getD u 0)] [] ?_
          have wq148 := o_wid.cpy wd138 (by omega) tk147
          rw [List.append_assoc, o_subdt hu.1 (by omega)] at wq148
          refine yA (fun _ z_ => yC X147 (Q 66) rfl rfl (qJ X147 (Q 67) rfl rfl z_)) ?_
          have f149 := (Fc138.keep K147 (yB (by omega) nin0))
          refine yO (yV X147 hZ hown (W 247) e147 f149 rfl rfl (Q 68)) ?_
          intro T150 X150 e150
          refine yA (fun _ z_ => yE X150 (Q 69) rfl (yJ X150 (Q 70) rfl (XS.isub X150.here hx rfl (Q 71).2 rfl (XS.iadd X150.here hx rfl (Q 72).2 rfl z_)))) ?_
          refine yG m 132 #[rv a1, rv a2, iv (ofNat i), iv (ofNat j), rv t1, iv (ofNat u), iv (ofNat (cs ++ (tx.drop i).take (u - i)).length), iv (tx.getD u 0)] [(.int ((ofNat (cs ++ (tx.drop i).take (u - i)).length) + ((ofNat j) - (ofNat u)))), (.ref a1)] ?_
          rw [show ((ofNat (cs ++ (tx.drop i).take (u - i)).length) + ((ofNat j) - (ofNat u))) = (ofNat (cs ++ (tx.drop i).take (j - i)).length) from (by rw [o_nsub (by omega) (by omega), o_ldt (by omega), o_ldt (by omega), uD (by omega)]; congr 1; omega)]
          have f151 := (E138.keep K147)
          refine qL (putF X150 hx hZ hown (host := "") (Or.inl (W 247)) Via.refl e150 f149 f151 (Or.inl (W 248)) (W 204) (ty := .int) (by decide) rfl rfl rfl rfl (Q 73).2) ?_
          intro T152 h152 X152 e152 W152
          have F152 := f149.same W152
          have K152 := Keep.of_wr W152
          have N152 := Fr.snoc X152 N147 (by omega : n0 ≤ a1)
          have zK152 := K152.1
          have KK153 := yF (yN (yF (yF (yF (Keep.refl h0 [t1, a1]) KL121) K130) K138) K147) K152
          have f154 := (f151.keep K152)
          have KK155 := yF (yF (Keep.refl h138 [b138, a1]) K147) K152
          have f156 := ((Fa138.keep K147 (yB (by omega) nin0)).other W152 (yS (Or.inl (W 218)) (Or.inl (W 248)) (by decide)))
          have f157 := ((Fb138.keep K147 (yB (by omega) nin0)).other W152 (yS (Or.inl (W 220)) (Or.inl (W 248)) (by decide)))
          have f158 := ((Fd138.keep K147 (yB (by omega) nin0)).other W152 (yS (Or.inl (W 523)) (Or.inl (W 248)) (by decide)))
          have f159 := (V147.keep K152 (yB (by omega) nin0))
          exact uG X152 hlk e152 hret (Q 74) (by decide) ⟨rfl, N152, (o_keepW KK153 (by simp)), b138, _, (Or.inr (by omega)), f154, _, _, _, f156, f157, F152, f158, f159, Or.inr ⟨rfl, rfl, lp147, wq148, tx.getD u 0, List.mem_append_right _ (o_memg hu.1 hlt hj), hwc⟩, o_bd2 hbd1 (fun c hc => hbd2 c (o_memdr hc)), by omega⟩
        · refine yG m 67 #[rv a1, rv a2, iv (ofNat i), iv (ofNat j), rv t1, iv (ofNat u), iv (ofNat v6), iv (tx.getD u 0)] [(.int (tx.getD u 0))] ?_
          refine yL (qD X125 hZ (y := mN12) hown (W 441) (W 442) (W 63) (W 443) 0 (ca1 hw (tx.getD u 0) O123 hnc) e125 (by decide) rfl (hM rfl) [(.int (tx.getD u 0))] (rest := []) pd22 rfl rfl rfl rfl rfl (Q 43)) ?_
          rintro T160 _ _ h160 X160 e160 ⟨rfl, N160q, hq160⟩
          replace e160 := e160.trans hq160
          have N160 := Fr.app N125 N160q
          refine yA (fun _ z_ => qA X160 (Q 44) rfl ((if0 _ _).trans (feq (by decide)).1) (qN X160 (Q 75) rfl rfl (yJ X160 (Q 76) rfl (XS.iinc X160.here hx rfl (Q 77).2 rfl rfl (yJ X160 (Q 78) rfl (XS.i2b X160.here hx rfl (Q 79).2 rfl z_)))))) ?_
          refine yG m 83 #[rv a1, rv a2, iv (ofNat i), iv (ofNat j), rv t1, iv (ofNat u), iv ((ofNat v6) + (1 : Int32)), iv (tx.getD u 0)] [(.int ((tx.getD u 0).toInt8.toInt32)), (.int (ofNat v6)), (.ref t1)] ?_
          show  uR p e below s _ _ _ (T160.setTop (mkF m 83 #[rv a1, rv a2, iv (ofNat i), iv (ofNat j), rv t1, iv (ofNat u), iv ((ofNat v6) + (1 : Int32)), iv (tx.getD u 0)] [(.int (StrChars.lo8 (tx.getD u 0))), (.int (ofNat v6)), (.ref t1)]))
          obtain ⟨c161, Ar161, q161, S161, M161, H161, U161⟩ := Vj
          refine qL (stB X160 hx hZ e160 Ar161 (j := (ofNat v6)) (inb_of S161 ⟨uK (by omega), (qP (by omega) (by omega)).mpr (by omega)⟩) rfl rfl (Q 80).2) ?_
          intro T161 h161 X161 e161 W161
          have V161 := Arv.set Ar161 q161 S161 M161 H161 U161 (fits_nar_byte _) W161 v6 (qU (by omega)) (by omega)
          rw [o_narB] at V161
          have K161 := Keep.of_wr W161
          have N161 := Fr.snoc X161 N160 (by omega : n0 ≤ t1)
          have zK161 := K161.1
          refine yA (fun _ z_ => yT X161 84 136 rfl (Q 81) (by decide) (XS.iinc X161.here hx rfl (Q 82).2 rfl rfl (yT X161 139 51 rfl (Q 83) (by decide) z_))) ?_
          refine yG m 51 #[rv a1, rv a2, iv (ofNat i), iv (ofNat j), rv t1, iv ((ofNat u) + (1 : Int32)), iv ((ofNat v6) + (1 : Int32)), iv (tx.getD u 0)] [] ?_
          rw [show ofNat u + (1 : Int32) = ofNat (u + 1) from uD (b := 1) (by omega), show ofNat v6 + (1 : Int32) = ofNat (v6 + 1) from uD (b := 1) (by omega)]
          refine yG m 51 #[rv a1, rv a2, iv (ofNat i), iv (ofNat j), rv t1, iv (ofNat (u + 1)), iv (ofNat (v6 + 1)), iv (tx.getD u 0)] [] ?_
          have hn_ := uU.put hlj (by rw [elj]; omega) (tx.getD u 0)
          rw [elj, List.append_assoc, ← o_dtS hu.1 (by omega)] at hn_
          have hm_ : ∀ c ∈ (tx.drop i).take (u + 1 - i), ¬ (255 : Int32) < c := by rw [o_dtS hu.1 (by omega)]; exact o_bd1 hltj hnc
          have KK162 := yF (yF (Keep.refl h0 [t1]) KL121) K161
          exact ih _ (by omega) _ _ _ (u + 1) (v6 + 1) _ _ rfl KK162 V161 ⟨by omega, hlt⟩ (by omega) (by rw [List.length_set]; exact hvj) hn_ hm_ (Or.inr ⟨_, rfl, rfl⟩) X161 e161 N161
      · refine yA (fun _ z_ => qG XG121 54 142 rfl (Q 37) rfl (flt c122).2.1 (by decide) z_) ?_
        refine yG m 142 #[rv a1, rv a2, iv (ofNat i), iv (ofNat j), rv t1, iv (ofNat u), iv (ofNat v6), sl7] [] ?_
        have hue : ¬ u < j := fun q => c122 ((qP (by omega) (by omega)).mpr q)
        rw [show u - i = j - i from by omega] at hlj hltj
        refine yA (fun _ z_ => yT XG121 142 194 rfl (Q 84) (by decide) (yC XG121 (Q 18) rfl rfl (qJ XG121 (Q 19) rfl rfl z_))) ?_
        have f163 := (F3.keep KL121 (yB (by omega) nin0))
        refine yO (yV XG121 hZ hown (W 247) eG121 f163 rfl rfl (Q 20)) ?_
        intro T164 X164 e164
        refine yA (fun _ z_ => yE X164 (Q 21) rfl (yE X164 (Q 22) rfl (XS.isub X164.here hx rfl (Q 23).2 rfl (XS.iadd X164.here hx rfl (Q 24).2 rfl z_)))) ?_
        refine yG m 203 #[rv a1, rv a2, iv (ofNat i), iv (ofNat j), rv t1, iv (ofNat u), iv (ofNat v6), sl7] [(.int ((ofNat cs.length) + ((ofNat j) - (ofNat i)))), (.ref a1)] ?_
        rw [show ((ofNat cs.length) + ((ofNat j) - (ofNat i))) = (ofNat (cs ++ (tx.drop i).take (j - i)).length) from (by rw [o_nsub (by omega) (by omega)]; exact o_cnt2 (by omega) (by omega))]
        have f165 := (E1.keep KL121)
        refine qL (putF X164 hx hZ hown (host := "") (Or.inl (W 247)) Via.refl e164 f163 f165 (Or.inl (W 248)) (W 204) (ty := .int) (by decide) rfl rfl rfl rfl (Q 25).2) ?_
        intro T166 h166 X166 e166 W166
        have F166 := f163.same W166
        have K166 := Keep.of_wr W166
        have N166 := Fr.snoc X166 NG121 (by omega : n0 ≤ a1)
        have zK166 := K166.1
        have KK167 := yF (yF (Keep.refl h0 [t1, a1]) KL121) K166
        have f168 := (f165.keep K166)
        have f169 := ((F1.keep KL121 (yB (by omega) nin0)).other W166 (yS (Or.inl (W 218)) (Or.inl (W 248)) (by decide)))
        have f170 := ((F2.keep KL121 (yB (by omega) nin0)).other W166 (yS (Or.inl (W 220)) (Or.inl (W 248)) (by decide)))
        have f171 := ((F4.keep KL121 (yB (by omega) nin0)).other W166 (yS (Or.inl (W 523)) (Or.inl (W 248)) (by decide)))
        have f172 := (Vj.keep K166 (yB (by omega) nin0))
        exact uG X166 hlk e166 hret (Q 26) (by decide) ⟨rfl, N166, (o_keepW KK167 (by simp)), t1, _, (Or.inl rfl), f168, _, _, _, f169, f170, F166, f171, f172, Or.inl ⟨rfl, rfl, hvj, hlj, o_bd2 hlat1 hltj⟩, o_bd2 hbd1 (fun c hc => hbd2 c (o_memdr hc)), hne1⟩
 · refine yG m 0 #[rv a1, rv a2, iv (ofNat i), iv (ofNat j), .unset, .unset, .unset, .unset] [] ?_
   rcases r2 with ⟨rfl, rfl, rfl, hlat2⟩ | ⟨rfl, rfl, rfl, cw2, hcm2, hcw2⟩
   · have zo := hsub ⟨cw1, hcm1, hcw1⟩
     obtain ⟨c, q1, q2⟩ := zo
     exact absurd q2 (hlat2 c q1)
   · refine yG m 0 #[rv a1, rv a2, iv (ofNat i), iv (ofNat j), .unset, .unset, .unset, .unset] [] ?_
     refine yA (fun _ z_ => yC X0 (Q 0) rfl rfl z_) ?_
     refine yL (qZ X0 hZ (y := mN4) hown (W 260) (W 261) (W 263) (W 262) (W 264) (W 213) 0 (al1 hw a1 O0 CS F2) e0 E1 (by decide) rfl (hM rfl) [] (rest := []) pd16 rfl rfl rfl rfl rfl (Q 1)) ?_
     rintro T173 _ _ h173 X173 e173 ⟨rfl, N173q, hq173⟩
     replace e173 := e173.trans hq173
     have N173 := Fr.app N0 N173q
     refine yA (fun _ z_ => qF X173 4 145 rfl (Q 2) rfl ((if0 _ _).trans (teq (by decide)).1) (by decide) (yC X173 (Q 85) rfl rfl z_)) ?_
     refine yL (qZ X173 hZ (y := mN13) hown (W 265) (W 57) (W 59) (W 58) (W 60) (W 10) 0 (il1 hw a2 O0 CS G2) e173 E2 (by decide) rfl (hM rfl) [] (rest := []) pd16 rfl rfl rfl rfl rfl (Q 86)) ?_
     rintro T174 _ _ h174 X174 e174 ⟨rfl, N174q, hq174⟩
     replace e174 := e174.trans hq174
     have N174 := Fr.app N173 N174q
     refine yA (fun _ z_ => qF X174 149 169 rfl (Q 87) rfl ((if0 _ _).trans (teq (by decide)).1) (by decide) (yC X174 (Q 88) rfl rfl z_)) ?_
     refine yL (qZ X174 hZ (y := mN29) hown (W 266) (W 267) (W 269) (W 268) (W 270) (W 10) 0 (svW hw a2 t2 O0 G1) e174 E2 (by decide) rfl (hM rfl) [] (rest := []) pd35 rfl rfl rfl rfl rfl (Q 89)) ?_
     rintro T175 _ _ h175 X175 e175 ⟨rfl, N175q, hq175⟩
     replace e175 := e175.trans hq175
     have N175 := Fr.app N174 N175q
     refine yA (fun _ z_ => yE X175 (Q 90) rfl (yH X175 (Q 91) (XS.ishl X175.here hx rfl (Q 92).2 rfl (yC X175 (Q 93) rfl rfl z_)))) ?_
     refine yO (yV X175 hZ hown (W 217) e175 F1 rfl rfl (Q 94)) ?_
     intro T176 X176 e176
     refine yA (fun _ z_ => yC X176 (Q 95) rfl rfl z_) ?_
     refine yO (yV X176 hZ hown (W 247) e176 F3 rfl rfl (Q 96)) ?_
     intro T177 X177 e177
     refine yA (fun _ z_ => yH X177 (Q 97) (XS.ishl X177.here hx rfl (Q 98).2 rfl (yE X177 (Q 99) rfl (yE X177 (Q 100) rfl (XS.isub X177.here hx rfl (Q 101).2 rfl (yH X177 (Q 102) z_)))))) ?_
     refine yA (fun _ z_ => XS.ishl X177.here hx rfl (Q 103).2 rfl z_) ?_
     refine yG m 191 #[rv a1, rv a2, iv (ofNat i), iv (ofNat j), .unset, .unset, .unset, .unset] [(.int (((ofNat j) - (ofNat i)) <<< ((1 : Int32) &&& 31))), (.int ((ofNat cs.length) <<< ((1 : Int32) &&& 31))), (.ref t1), (.int ((ofNat i) <<< ((1 : Int32) &&& 31))), (.ref t2)] ?_
     rw [show (((ofNat j) - (ofNat i)) <<< ((1 : Int32) &&& 31)) = (ofNat (2 * (j - i))) from (by rw [o_nsub (by omega) (by omega)]; exact o_shl (by omega))]
     refine yG m 191 #[rv a1, rv a2, iv (ofNat i), iv (ofNat j), .unset, .unset, .unset, .unset] [(.int (ofNat (2 * (j - i)))), (.int ((ofNat cs.length) <<< ((1 : Int32) &&& 31))), (.ref t1), (.int ((ofNat i) <<< ((1 : Int32) &&& 31))), (.ref t2)] ?_
     rw [show ((ofNat cs.length) <<< ((1 : Int32) &&& 31)) = (ofNat (2 * cs.length)) from (o_shl (by omega))]
     refine yG m 191 #[rv a1, rv a2, iv (ofNat i), iv (ofNat j), .unset, .unset, .unset, .unset] [(.int (ofNat (2 * (j - i)))), (.int (ofNat (2 * cs.length))), (.ref t1), (.int ((ofNat i) <<< ((1 : Int32) &&& 31))), (.ref t2)] ?_
     rw [show ((ofNat i) <<< ((1 : Int32) &&& 31)) = (ofNat (2 * i)) from (o_shl (by omega))]
     have zo := o_cpB X177 hx hZ hown (W 271) (W 274) (W 272) (W 273) e177 A2 A1 (o_wlen tx) hvl1 (by omega) (by omega) (by omega) (by omega) N175 (by omega : n0 ≤ t1) (g := (mkF m 191 #[rv a1, rv a2, iv (ofNat i), iv (ofNat j), .unset, .unset, .unset, .unset] [(.int (ofNat (2 * (j - i)))), (.int (ofNat (2 * cs.length))), (.ref t1), (.int (ofNat (2 * i))), (.ref t2)])) rfl (hM rfl) rfl (Q 104).2 (by decide) (W := 0) (qE rfl rfl) (by decide)
     obtain ⟨T178, h178, L178, vd178, X178, e178, N178, K178, V178, lp178, tk178, st178⟩ := zo
     refine yA st178 ?_
     have zK178 := K178.1
     refine yA (fun _ z_ => yC X178 (Q 18) rfl rfl (qJ X178 (Q 19) rfl rfl z_)) ?_
     have f179 := (F3.keep K178 (yB (by omega) nin0))
     refine yO (yV X178 hZ hown (W 247) e178 f179 rfl rfl (Q 20)) ?_
     intro T180 X180 e180
     refine yA (fun _ z_ => yE X180 (Q 21) rfl (yE X180 (Q 22) rfl (XS.isub X180.here hx rfl (Q 23).2 rfl (XS.iadd X180.here hx rfl (Q 24).2 rfl z_)))) ?_
     refine yG m 203 #[rv a1, rv a2, iv (ofNat i), iv (ofNat j), .unset, .unset, .unset, .unset] [(.int ((ofNat cs.length) + ((ofNat j) - (ofNat i)))), (.ref a1)] ?_
     rw [show ((ofNat cs.length) + ((ofNat j) - (ofNat i))) = (ofNat (cs ++ (tx.drop i).take (j - i)).length) from (by rw [o_nsub (by omega) (by omega)]; exact o_cnt2 (by omega) (by omega))]
     have f181 := (E1.keep K178)
     refine qL (putF X180 hx hZ hown (host := "") (Or.inl (W 247)) Via.refl e180 f179 f181 (Or.inl (W 248)) (W 204) (ty := .int) (by decide) rfl rfl rfl rfl (Q 25).2) ?_
     intro T182 h182 X182 e182 W182
     have F182 := f179.same W182
     have K182 := Keep.of_wr W182
     have N182 := Fr.snoc X182 N178 (by omega : n0 ≤ a1)
     have zK182 := K182.1
     have KK183 := yF (yF (Keep.refl h0 [t1, a1]) K178) K182
     have f184 := (f181.keep K182)
     have f185 := ((F1.keep K178 (yB (by omega) nin0)).other W182 (yS (Or.inl (W 218)) (Or.inl (W 248)) (by decide)))
     have f186 := ((F2.keep K178 (yB (by omega) nin0)).other W182 (yS (Or.inl (W 220)) (Or.inl (W 248)) (by decide)))
     have f187 := ((F4.keep K178 (yB (by omega) nin0)).other W182 (yS (Or.inl (W 523)) (Or.inl (W 248)) (by decide)))
     have f188 := (V178.keep K182 (yB (by omega) nin0))
     exact uG X182 hlk e182 hret (Q 26) (by decide) ⟨rfl, N182, (o_keepW KK183 (by simp)), t1, _, (Or.inl rfl), f184, _, _, _, f185, f186, F182, f187, f188, Or.inr ⟨rfl, rfl, lp178, hwd_.cpy (by omega) tk178, cw1, List.mem_append_left _ hcm1, hcw1⟩, o_bd2 hbd1 (fun c hc => hbd2 c (o_memdr hc)), hne1⟩
theorem d40 : yX jdk_41_method_12_code [(0, .iload_n 0, 1), (1, .ifCond .lt 13, 3), (4, .iload_n 0, 1), (5, .iload_n 1, 1), (6, .if_icmp .gt 8, 3), (9, .iload_n 1, 1), (10, .iload_n 2, 1), (11, .if_icmp .le 11, 3), (22, .iload_n 0, 1), (23, .ireturn, 1)] := by decide +kernel
theorem ef_cfP (m : MethodId) (x0 : Int32) (x1 : Int32) (x2 : Int32) (x3 : Value) (hx3 : x3.isRef = true) : entryFrame m #[(.int x0), (.int x1), (.int x2), x3] 4 = mkF m 0 #[iv x0, iv x1, iv x2, .val x3] [] := by rcases ref_cases hx3 with rfl | ⟨_, rfl⟩ <;> (first | (simp [entryFrame, mkF, argsToLocals, Value.category]; done) | rfl)
abbrev cfPR : Room := { frames := 0, cells := 0, slots := 0, locals := 0 }
theorem cfP (hw : yQ a0 Z) (i j k : Nat) (G : Value) (O0 : Old Z n0 h0) (hG : G.isRef = true) (hij : i ≤ j) (hjk : j ≤ k) (hk : k ≤ 40) :
 yZ l Z (⟨sN17, "checkFromToIndex", "(IIILjava/util/function/BiFunction;)I"⟩ : MethodName) jdk_41_method_12_code 4 (some .int) [] cfPR #[(.int (ofNat i)), (.int (ofNat j)), (.int (ofNat k)), G] h0 (fun v h L => v = some (.int (ofNat i)) ∧ Fr n0 L ∧ h = h0) := by
 refine yK (plainFor_of_name pd10) ?_
 intro p e s m below meth c T0 X0 hx hby hml hZ hown hnm hret hlk e0
 have W := qC hw
 have Q := @yR p c _ _ _ hx hby d40
 have N0 := Fr.nil n0
 have zO := yM O0
 refine yA (fun _ z_ => castTop (ef_cfP m (ofNat i) (ofNat j) (ofNat k) G hG) (yE X0 (Q 0) rfl (qA X0 (Q 1) rfl ((if0 _ _).trans (flt (uK (by omega))).1) (yE X0 (Q 2) rfl (yE X0 (Q 3) rfl (qH X0 (Q 4) rfl (flt (by rw [qP (by omega) (by omega)]; omega)).2.2.1 z_)))))) ?_
 refine yA (fun _ z_ => yE X0 (Q 5) rfl (yE X0 (Q 6) rfl (qG X0 11 22 rfl (Q 7) rfl (flt (by rw [qP (by omega) (by omega)]; omega)).2.2.2 (by decide) (yE X0 (Q 8) rfl z_)))) ?_
 exact yW X0 hlk e0 hret rfl o_iI (Q 9) (by decide) ⟨rfl, N0, rfl⟩
theorem d39 : yX jdk_68_method_27_code [(0, .aload_n 1, 1), (1, .ifnonnull 6, 3), (7, .iload_n 2, 1), (8, .iload_n 3, 1), (9, .aload_n 1, 1), (10, .invokeinterface 47 1, 5), (15, .getstatic 183, 3), (18, .invokestatic 161, 3), (21, .pop, 1), (22, .iload_n 3, 1), (23, .iload_n 2, 1), (24, .isub, 1), (25, .istore 4, 2), (27, .aload_n 0, 1), (28, .aload_n 0, 1), (29, .getfield 79, 3), (32, .iload 4, 2), (34, .iadd, 1), (35, .invokevirtual 100, 3), (38, .aload_n 1, 1), (39, .instanceof 1, 3), (42, .ifCond .eq 16, 3), (45, .aload_n 0, 1), (46, .aload_n 1, 1), (47, .checkcast 1, 3), (50, .iload_n 2, 1), (51, .iload_n 3, 1), (52, .invokevirtual 232, 3), (55, .goto 10, 3), (65, .aload_n 0, 1), (66, .areturn, 1)] := by decide +kernel
theorem pd36 : parseMethodDescriptor "(Ljava/lang/String;II)V" = some ⟨[(.object sN2), .int, .int], none⟩ := by decide +kernel
abbrev acsWR : Room := { frames := 7, cells := 1, slots := 40, locals := 108 }
theorem acsW (hw : yQ a0 Z) (a1 t1 a2 t2 : Nat) (k1 : ClassId) (cs tx : List Int32) (i j : Nat) (O0 : Old Z n0 h0) (CS : uE Z) (UT : uB Z) (FM : uQ Z) (FI : o_FMI Z) (g1 : n0 ≤ a1) (g2 : n0 ≤ t1) (hij : i ≤ j) (hj : j ≤ tx.length) (hk : tx.length ≤ 20) (hl : cs.length + (j - i) ≤ 16) (hsub : (∃ c ∈ cs, (255 : Int32) < c) → ∃ c ∈ tx, (255 : Int32) < c) (d1 : a2 ≠ a1) (d2 : a2 ≠ t1) (d3 : t2 ≠ a1) (d4 : t2 ≠ t1) (S1 : uM Z h0 a1 t1 k1 cs) (S2 : yU Z h0 a2 t2 tx) :
 yZ l Z (⟨sN4, "append", "(Ljava/lang/CharSequence;II)Ljava/lang/AbstractStringBuilder;"⟩ : MethodName) jdk_68_method_27_code 5 (some (.object sN4)) [] acsWR #[(.ref a1), (.ref a2), (.int (ofNat i)), (.int (ofNat j))] h0 (fun v h L => v = some (.ref a1) ∧ Fr n0 L ∧ Keep h0 h [a1, t1] ∧ ∃ (t' : Nat) (k' : ClassId), (t' = t1 ∨ h0.size ≤ t') ∧ uM Z h a1 t' k' ((cs ++ (tx.drop i).take (j - i)))) := by
 refine yK (plainFor_of_name pd26) ?_
 intro p e s m below meth c T0 X0 hx hby hml hZ hown hnm hret hlk e0
 have hM := @qK _ _ hml
 have W := qC hw
 have Q := @yR p c _ _ _ hx hby d39
 have N0 := Fr.nil n0
 have zO := yM O0
 have hlt1 := S1.lt
 have hlt2 := S2.lt
 have zo := S1
 obtain ⟨-, _, _, _, -, -, F3_, -⟩ := zo
 have zo := FI
 obtain ⟨G, Sg, hG⟩ := zo
 refine yP 1 rfl rfl ?_
 refine yG m 0 #[rv a1, rv a2, iv (ofNat i), iv (ofNat j), .unset] [] ?_
 refine yA (fun _ z_ => yC X0 (Q 0) rfl rfl (XS.ifnonnullYes X0.here hx rfl (pc0 := 1) (pc' := 7) rfl (Q 1).2 rfl (by decide) (by decide) (yE X0 (Q 2) rfl (yE X0 (Q 3) rfl (yC X0 (Q 4) rfl rfl z_))))) ?_
 refine yL (o_cF X0 hZ (y := (⟨"java/lang/CharSequence", "length", "()I"⟩ : MethodName)) (z := mN5) hown (W 235) (W 236) (mvT hZ (W 237)) (W 238) (W 82) (W 239) (W 240) (W 241) (W 84) (W 10) 2 (sln hw a2 tx O0 CS hk (yU.str S2)) e0 S2.1 (by decide) rfl (hM rfl) [] (rest := [(.int (ofNat j)), (.int (ofNat i))]) pd19 rfl rfl rfl rfl rfl (Q 5)) ?_
 rintro T101 _ _ h101 X101 e101 ⟨rfl, N101q, hq101⟩
 replace e101 := e101.trans hq101
 have N101 := Fr.app N0 N101q
 refine yO (getS2 X101 hx hZ hown (host := "") (Or.inl (W 242)) Via.refl e101 (Sg.ext O0.2) rfl (Q 6).2) ?_
 intro T102 X102 e102
 refine yL (qD X102 hZ (y := (⟨sN17, "checkFromToIndex", "(IIILjava/util/function/BiFunction;)I"⟩ : MethodName)) hown (W 244) (W 245) (W 69) (W 246) 0 (cfP hw i j tx.length G O0 hG (by omega) (by omega) (by omega)) e102 (by decide) rfl (hM rfl) [(.int (ofNat i)), (.int (ofNat j)), (.int (ofNat tx.length)), G] (rest := []) pd29 rfl rfl rfl rfl rfl (Q 7)) ?_
 rintro T103 _ _ h103 X103 e103 ⟨rfl, N103q, hq103⟩
 replace e103 := e103.trans hq103
 have N103 := Fr.app N101 N103q
 refine yA (fun _ z_ => XS.pop X103.here hx rfl (Q 8).2 rfl rfl (yE X103 (Q 9) rfl (yE X103 (Q 10) rfl (XS.isub X103.here hx rfl (Q 11).2 rfl z_)))) ?_
 refine yG m 25 #[rv a1, rv a2, iv (ofNat i), iv (ofNat j), .unset] [(.int ((ofNat j) - (ofNat i)))] ?_
 rw [show ((ofNat j) - (ofNat i)) = (ofNat (j - i)) from o_nsub hij (by omega)]
 refine yA (fun _ z_ => qM X103 (Q 12) rfl rfl (yC X103 (Q 13) rfl rfl (yC X103 (Q 14) rfl rfl z_))) ?_
 refine yO (yV X103 hZ hown (W 247) e103 F3_ rfl rfl (Q 15)) ?_
 intro T104 X104 e104
 refine yA (fun _ z_ => yJ X104 (Q 16) rfl (XS.iadd X104.here hx rfl (Q 17).2 rfl z_)) ?_
 refine yG m 35 #[rv a1, rv a2, iv (ofNat i), iv (ofNat j), iv (ofNat (j - i))] [(.int ((ofNat cs.length) + (ofNat (j - i)))), (.ref a1)] ?_
 rw [show ((ofNat cs.length) + (ofNat (j - i))) = (ofNat (cs.length + (j - i))) from uD (by omega)]
 refine yL (o_cP X104 hZ (y := mN2) hown (W 249) (W 250) (o_NIs (y := mN2) (W 252)) (W 251) (W 253) (W 213) 0 (ecW hw a1 t1 k1 cs (cs.length + (j - i)) O0 (by omega) S1) e104 S1.1 (by decide) rfl (hM rfl) [(.int (ofNat (cs.length + (j - i))))] (rest := []) pd27 rfl rfl rfl rfl rfl (Q 18)) ?_
 rintro T105 _ _ h105 X105 e105 ⟨rfl, N105q, hq105⟩
 replace e105 := e105.trans hq105
 have N105 := Fr.app N103 N105q
 refine yA (fun _ z_ => yC X105 (Q 19) rfl rfl z_) ?_
 refine yO (instY X105 hx hZ hown (W 254) e105 (Ins.self S2.1) rfl rfl (Q 20).2) ?_
 intro T106 X106 e106
 refine yA (fun _ z_ => qA X106 (Q 21) rfl ((if0 _ _).trans (feq (by decide)).1) (yC X106 (Q 22) rfl rfl (yC X106 (Q 23) rfl rfl z_))) ?_
 refine yO (castY X106 hx hZ hown (W 254) e106 (Ins.self S2.1) rfl rfl (Q 24).2) ?_
 intro T107 X107 e107
 refine yA (fun _ z_ => yE X107 (Q 25) rfl (yE X107 (Q 26) rfl z_)) ?_
 refine yL (o_cP X107 hZ (y := (⟨sN4, "appendChars", "(Ljava/lang/String;II)V"⟩ : MethodName)) hown (W 255) (W 256) (o_NIs (y := mN2) (W 252)) (W 257) (W 259) (W 213) 0 (achW hw a1 t1 a2 t2 k1 cs tx i j O0 CS UT FM (by omega) (by omega) hij hj hk hl hsub (by omega) (by omega) (by omega) (by omega) S1 S2) e107 S1.1 (by decide) rfl (hM rfl) [(.ref a2), (.int (ofNat i)), (.int (ofNat j))] (rest := []) pd36 rfl rfl rfl rfl rfl (Q 27)) ?_
 rintro T108 _ _ h108 X108 e108 ⟨rfl, N108q, K108, t108, kb108, zt108, S108⟩
 have zK108 := K108.1
 have N108 := Fr.app N105 N108q
 have ls108 := S108.lt
 have E108 := S108.1
 refine yA (fun _ z_ => yT X108 55 65 rfl (Q 28) (by decide) (yC X108 (Q 29) rfl rfl z_)) ?_
 exact yW X108 hlk e108 hret rfl (uA rfl rfl) (Q 30) (by decide) ⟨rfl, N108, K108, _, _, zt108, S108⟩
theorem d38 : yX jdk_67_method_10_code [(0, .aload_n 0, 1), (1, .aload_n 1, 1), (2, .iload_n 2, 1), (3, .iload_n 3, 1), (4, .invokespecial 38, 3), (7, .pop, 1), (8, .aload_n 0, 1), (9, .areturn, 1)] := by decide +kernel
theorem pd37 : parseMethodDescriptor "(Ljava/lang/CharSequence;II)Ljava/lang/AbstractStringBuilder;" = some ⟨[(.object "java/lang/CharSequence"), .int, .int], some (.object sN4)⟩ := by decide +kernel
abbrev scsWR : Room := { frames := 8, cells := 1, slots := 40, locals := 124 }
theorem scsW (hw : yQ a0 Z) (a1 t1 a2 t2 : Nat) (k1 : ClassId) (cs tx : List Int32) (i j : Nat) (O0 : Old Z n0 h0) (CS : uE Z) (UT : uB Z) (FM : uQ Z) (FI : o_FMI Z) (g1 : n0 ≤ a1) (g2 : n0 ≤ t1) (hij : i ≤ j) (hj : j ≤ tx.length) (hk : tx.length ≤ 20) (hl : cs.length + (j - i) ≤ 16) (hsub : (∃ c ∈ cs, (255 : Int32) < c) → ∃ c ∈ tx, (255 : Int32) < c) (d1 : a2 ≠ a1) (d2 : a2 ≠ t1) (d3 : t2 ≠ a1) (d4 : t2 ≠ t1) (S1 : uM Z h0 a1 t1 k1 cs) (S2 : yU Z h0 a2 t2 tx) :
 yZ l Z mN30 jdk_67_method_10_code 4 (some (.object sN14)) [] scsWR #[(.ref a1), (.ref a2), (.int (ofNat i)), (.int (ofNat j))] h0 (fun v h L => v = some (.ref a1) ∧ Fr n0 L ∧ Keep h0 h [a1, t1] ∧ ∃ (t' : Nat) (k' : ClassId), (t' = t1 ∨ h0.size ≤ t') ∧ uM Z h a1 t' k' ((cs ++ (tx.drop i).take (j - i)))) := by
 refine yK (plainFor_of_name pd28) ?_
 intro p e s m below meth c T0 X0 hx hby hml hZ hown hnm hret hlk e0
 have hM := @qK _ _ hml
 have W := qC hw
 have Q := @yR p c _ _ _ hx hby d38
 have N0 := Fr.nil n0
 have zO := yM O0
 have hlt1 := S1.lt
 have hlt2 := S2.lt
 refine yP 0 rfl rfl ?_
 refine yG m 0 #[rv a1, rv a2, iv (ofNat i), iv (ofNat j)] [] ?_
 refine yA (fun _ z_ => yC X0 (Q 0) rfl rfl (yC X0 (Q 1) rfl rfl (yE X0 (Q 2) rfl (yE X0 (Q 3) rfl z_)))) ?_
 refine yL (o_callU X0 hx hZ (y := (⟨sN4, "append", "(Ljava/lang/CharSequence;II)Ljava/lang/AbstractStringBuilder;"⟩ : MethodName)) hown (W 230) (o_same (o_NIs (y := mN2) (W 252)) (W 231) (by decide)) (W 231) (W 232) (by decide) (W 234) (qY (W := 0) (acsW hw a1 t1 a2 t2 k1 cs tx i j O0 CS UT FM FI (by omega) (by omega) hij hj hk hl hsub (by omega) (by omega) (by omega) (by omega) S1 S2) hZ (W 234) (W 213) (by decide) (by decide)) e0 S1.1 (by decide) (by decide) rfl (hM rfl) (argsL := [(.ref a2), (.int (ofNat i)), (.int (ofNat j))]) (rest := []) (lenOf pd37 rfl) rfl rfl (qE rfl rfl) (Q 4).2) ?_
 rintro T101 _ _ h101 X101 e101 ⟨rfl, N101q, K101, t101, kb101, zt101, S101⟩
 have zK101 := K101.1
 have N101 := Fr.app N0 N101q
 have ls101 := S101.lt
 have E101 := S101.1
 refine yA (fun _ z_ => XS.pop X101.here hx rfl (Q 5).2 rfl rfl (yC X101 (Q 6) rfl rfl z_)) ?_
 exact yW X101 hlk e101 hret rfl (uA rfl rfl) (Q 7) (by decide) ⟨rfl, N101, K101, _, _, zt101, S101⟩
theorem d48 : yX jdk_68_method_64_code [(0, .aload_n 0, 1), (1, .getfield 15, 3), (4, .areturn, 1)] := by decide +kernel
abbrev gvWR : Room := { frames := 0, cells := 0, slots := 0, locals := 0 }
theorem gvW (hw : yQ a0 Z) (a1 : Nat) (u1 : Nat) (O0 : Old Z n0 h0) (F1 : Fld Z h0 a1 sN4 "value" "[B" (.ref u1)) :
 yZ l Z mN50 jdk_68_method_64_code 1 (some (.array .byte)) [] gvWR #[(.ref a1)] h0 (fun v h L => v = some (.ref u1) ∧ Fr n0 L ∧ h = h0) := by
 refine yK (plainFor_of_name pd26) ?_
 intro p e s m below meth c T0 X0 hx hby hml hZ hown hnm hret hlk e0
 have W := qC hw
 have Q := @yR p c _ _ _ hx hby d48
 have N0 := Fr.nil n0
 have zO := yM O0
 refine yP 0 rfl rfl ?_
 refine yG m 0 #[rv a1] [] ?_
 refine yA (fun _ z_ => yC X0 (Q 0) rfl rfl z_) ?_
 refine yG m 1 #[rv a1] [(.ref a1)] ?_
 refine yO (yV X0 hZ hown (W 217) e0 F1 rfl rfl (Q 1)) ?_
 intro T101 X101 e101
 exact yW X101 hlk e101 hret rfl (uA rfl rfl) (Q 2) (by decide) ⟨rfl, N0, rfl⟩
theorem d50 : yX jdk_68_method_6_code [(0, .aload_n 0, 1), (1, .getfield 79, 3), (4, .ireturn, 1)] := by decide +kernel
abbrev alWR : Room := { frames := 0, cells := 0, slots := 0, locals := 0 }
theorem alW (hw : yQ a0 Z) (a1 : Nat) (u1 : Int32) (O0 : Old Z n0 h0) (F1 : Fld Z h0 a1 sN4 "count" "I" (.int u1)) :
 yZ l Z mN31 jdk_68_method_6_code 1 (some .int) [] alWR #[(.ref a1)] h0 (fun v h L => v = some (.int u1) ∧ Fr n0 L ∧ h = h0) := by
 refine yK (plainFor_of_name pd26) ?_
 intro p e s m below meth c T0 X0 hx hby hml hZ hown hnm hret hlk e0
 have W := qC hw
 have Q := @yR p c _ _ _ hx hby d50
 have N0 := Fr.nil n0
 have zO := yM O0
 refine yP 0 rfl rfl ?_
 refine yG m 0 #[rv a1] [] ?_
 refine yA (fun _ z_ => yC X0 (Q 0) rfl rfl z_) ?_
 refine yO (yV X0 hZ hown (W 247) e0 F1 rfl rfl (Q 1)) ?_
 intro T101 X101 e101
 exact yW X101 hlk e101 hret rfl o_iI (Q 2) (by decide) ⟨rfl, N0, rfl⟩
theorem d49 : yX jdk_67_method_93_code [(0, .aload_n 0, 1), (1, .invokespecial 343, 3), (4, .ireturn, 1)] := by decide +kernel
abbrev slWR : Room := { frames := 1, cells := 0, slots := 0, locals := 12 }
theorem slW (hw : yQ a0 Z) (a1 : Nat) (u1 : Int32) (O0 : Old Z n0 h0) (F1 : Fld Z h0 a1 sN4 "count" "I" (.int u1)) (E1 : Exa Z h0 a1 sN14) :
 yZ l Z mN51 jdk_67_method_93_code 1 (some .int) [] slWR #[(.ref a1)] h0 (fun v h L => v = some (.int u1) ∧ Fr n0 L ∧ h = h0) := by
 refine yK (plainFor_of_name pd28) ?_
 intro p e s m below meth c T0 X0 hx hby hml hZ hown hnm hret hlk e0
 have hM := @qK _ _ hml
 have W := qC hw
 have Q := @yR p c _ _ _ hx hby d49
 have N0 := Fr.nil n0
 have zO := yM O0
 refine yP 0 rfl rfl ?_
 refine yG m 0 #[rv a1] [] ?_
 refine yA (fun _ z_ => yC X0 (Q 0) rfl rfl z_) ?_
 refine yL (o_callU X0 hx hZ (y := mN31) hown (W 298) (o_same (o_NIs (y := mN2) (W 252)) (W 294) (by decide)) (W 294) (W 232) (by decide) (W 299) (qY (W := 0) (alW hw a1 u1 O0 F1) hZ (W 299) (W 213) (by decide) (by decide)) e0 E1 (by decide) (by decide) rfl (hM rfl) (argsL := []) (rest := []) (lenOf pd19 rfl) rfl rfl (qE rfl rfl) (Q 1).2) ?_
 rintro T101 _ _ h101 X101 e101 ⟨rfl, N101q, hq101⟩
 replace e101 := e101.trans hq101
 have N101 := Fr.app N0 N101q
 exact yW X101 hlk e101 hret rfl o_iI (Q 2) (by decide) ⟨rfl, N101, rfl⟩
theorem d47 : yX jdk_42_method_150_code [(0, .aload_n 0, 1), (1, .invokespecial 1, 3), (4, .aload_n 1, 1), (5, .invokevirtual 552, 3), (8, .astore_n 3, 1), (9, .aload_n 1, 1), (10, .invokevirtual 549, 3), (13, .istore 4, 2), (15, .aload_n 1, 1), (16, .invokevirtual 1047, 3), (19, .ifCond .eq 22, 3), (22, .aload_n 0, 1), (23, .iconst 0, 1), (24, .putfield 15, 3), (27, .aload_n 0, 1), (28, .aload_n 3, 1), (29, .iconst 0, 1), (30, .iload 4, 2), (32, .invokestatic 54, 3), (35, .putfield 9, 3), (38, .goto 59, 3), (97, .return_, 1), (41, .getstatic 38, 3), (44, .ifCond .eq 35, 3), (47, .aload_n 1, 1), (48, .getfield 1048, 3), (51, .ifCond .eq 28, 3), (79, .aload_n 0, 1), (80, .iconst 1, 1), (81, .putfield 15, 3), (84, .aload_n 0, 1), (85, .aload_n 3, 1), (86, .iconst 0, 1), (87, .iload 4, 2), (89, .iconst 1, 1), (90, .ishl, 1), (91, .invokestatic 54, 3), (94, .putfield 9, 3)] := by decide +kernel
abbrev sAVR : Room := { frames := 3, cells := 1, slots := 40, locals := 71 }
theorem sAV (hw : yQ a0 Z) (a1 a2 t2 : Nat) (k2 : ClassId) (cs : List Int32) (u1 u2 : Value) (O0 : Old Z n0 h0) (CS : uE Z) (g1 : n0 ≤ a1) (hl : cs.length < 16) (E0 : Exa Z h0 a1 sN2) (G1 : Fld Z h0 a1 sN2 "value" "[B" u1) (G2 : Fld Z h0 a1 sN2 "coder" "B" u2) (d1 : a1 ≠ a2) (d2 : a1 ≠ t2) (S1 : uM Z h0 a2 t2 k2 cs) :
 yZ l Z (⟨sN2, "<init>", "(Ljava/lang/AbstractStringBuilder;Ljava/lang/Void;)V"⟩ : MethodName) jdk_42_method_150_code 5 none [] sAVR #[(.ref a1), (.ref a2), .null] h0 (fun v h L => v = none ∧ Fr n0 L ∧ Keep h0 h [a1] ∧ ∃ b : Nat, h0.size ≤ b ∧ yU Z h a1 b cs) := by
 refine yK (plainFor_of_name pd8) ?_
 intro p e s m below meth c T0 X0 hx hby hml hZ hown hnm hret hlk e0
 have hM := @qK _ _ hml
 have W := qC hw
 have Q := @yR p c _ _ _ hx hby d47
 have N0 := Fr.nil n0
 have zO := yM O0
 have zo := S1
 obtain ⟨E1, cd1, N1, vs1, F1, F2, F3, F4, A1, r1, hbd1, hne1⟩ := zo
 have hlt1 := S1.lt
 have la1 : a1 < h0.size := E0.lt
 have zo := CS
 obtain ⟨zc, Sc, hzc⟩ := zo
 refine yP 2 rfl rfl ?_
 refine yG m 0 #[rv a1, rv a2, .val .null, .unset, .unset] [] ?_
 rcases r1 with ⟨rfl, rfl, hvl1, hlt_, hlat1⟩ | ⟨rfl, rfl, hvl1, hwd_, cw1, hcm1, hcw1⟩
 · refine yG m 0 #[rv a1, rv a2, .val .null, .unset, .unset] [] ?_
   refine yA (fun _ z_ => yC X0 (Q 0) rfl rfl z_) ?_
   refine yO (initO X0 hx hZ hown (W 18) (W 19) (W 20) e0 rfl (hM rfl) rfl (Q 1).2 (by decide) (W := 0) (qE rfl rfl) (by decide)) ?_
   intro T101 X101 e101
   refine yA (fun _ z_ => yC X101 (Q 2) rfl rfl z_) ?_
   refine yL (qZ X101 hZ (y := mN50) hown (W 287) (W 288) (W 290) (W 289) (W 291) (W 213) 0 (gvW hw a2 t2 O0 F1) e101 E1 (by decide) rfl (hM rfl) [] (rest := []) pd35 rfl rfl rfl rfl rfl (Q 3)) ?_
   rintro T102 _ _ h102 X102 e102 ⟨rfl, N102q, hq102⟩
   replace e102 := e102.trans hq102
   have N102 := Fr.app N0 N102q
   refine yA (fun _ z_ => XS.astoreN X102.here hx rfl (Q 4).2 rfl rfl rfl (yC X102 (Q 5) rfl rfl z_)) ?_
   refine yL (o_cN X102 hZ (y := mN31) (z := mN51) hown (W 292) (W 293) (o_nf hZ (o_NIs (y := mN2) (W 252))) (W 295) (W 296) (W 297) (W 205) 0 (slW hw a2 (ofNat cs.length) O0 F3 E1) e102 E1 (by decide) rfl (hM rfl) [] (rest := []) pd19 rfl rfl rfl rfl rfl (Q 6)) ?_
   rintro T103 _ _ h103 X103 e103 ⟨rfl, N103q, hq103⟩
   replace e103 := e103.trans hq103
   have N103 := Fr.app N102 N103q
   refine yA (fun _ z_ => qM X103 (Q 7) rfl rfl (yC X103 (Q 8) rfl rfl z_)) ?_
   refine yL (qZ X103 hZ (y := mN4) hown (W 300) (W 261) (W 263) (W 262) (W 264) (W 213) 0 (al0 hw a2 O0 CS F2) e103 E1 (by decide) rfl (hM rfl) [] (rest := []) pd16 rfl rfl rfl rfl rfl (Q 9)) ?_
   rintro T104 _ _ h104 X104 e104 ⟨rfl, N104q, hq104⟩
   replace e104 := e104.trans hq104
   have N104 := Fr.app N103 N104q
   refine yA (fun _ z_ => qA X104 (Q 10) rfl ((if0 _ _).trans (feq (by decide)).1) (yC X104 (Q 11) rfl rfl (yH X104 (Q 12) z_))) ?_
   refine qL (putFN X104 hx hZ hown (W 33) Via.refl e104 G2 E0 (Or.inr ⟨(W 34), rfl, hnm⟩) (W 9) (ty := .byte) (v' := (.int (0 : Int32))) (by decide) (by decide) (by decide) rfl rfl (Q 13).2) ?_
   intro T105 h105 X105 e105 W105
   have F105 := G2.same W105
   have K105 := Keep.of_wr W105
   have N105 := Fr.snoc X105 N104 (by omega : n0 ≤ a1)
   have zK105 := K105.1
   refine yA (fun _ z_ => yC X105 (Q 14) rfl rfl (yC X105 (Q 15) rfl rfl (yH X105 (Q 16) (yJ X105 (Q 17) rfl z_)))) ?_
   have O106 : Old Z n0 h105 := O0.keep K105 (allS (by omega) all0)
   have f107 := (A1.keep K105 (yB (by omega) nin0))
   refine yL (qD X105 hZ (y := mN47) hown (W 301) (W 302) (W 303) (W 304) 1 (crW hw t2 _ vs1 0 cs.length 16 O106 (Nat.zero_le _) (by omega) (by omega) hvl1 f107 (fun q => absurd q.2 (by omega))) e105 (by decide) rfl (hM rfl) [(.ref t2), (.int (0 : Int32)), (.int (ofNat cs.length))] (rest := [(.ref a1)]) pd25 rfl rfl rfl rfl rfl (Q 18)) ?_
   rintro T108 _ _ h108 X108 e108 ⟨N108q, b108, k108, rfl, K108, zb108, zc108, V108⟩
   have zK108 := K108.1
   have N108 := Fr.app N105 N108q
   have KK109 := yI (yF (Keep.refl h0 [a1]) K105) K108
   have f110 := ((G1.other W105 (yS (Or.inr (W 36)) (Or.inr (W 34)) (by decide))).keep K108 nin0)
   have f111 := (E0.keep KK109)
   refine qL (putF X108 hx hZ hown (host := "") (Or.inl (W 35)) Via.refl e108 f110 f111 (Or.inr ⟨(W 36), rfl, hnm⟩) (W 9) (ty := (.array .byte)) (by decide) rfl rfl rfl rfl (Q 19).2) ?_
   intro T112 h112 X112 e112 W112
   have F112 := f110.same W112
   have K112 := Keep.of_wr W112
   have N112 := Fr.snoc X112 N108 (by omega : n0 ≤ a1)
   have zK112 := K112.1
   refine yG m 38 #[rv a1, rv a2, .val .null, rv t2, iv (ofNat cs.length)] [] ?_
   refine yA (fun _ z_ => yT X112 38 97 rfl (Q 20) (by decide) z_) ?_
   refine yG m 97 #[rv a1, rv a2, .val .null, rv t2, iv (ofNat cs.length)] [] ?_
   have f114 := (V108.keep K112 (yB (by omega) nin0))
   have V113 := f114
   rw [Nat.sub_zero, List.drop_zero, (hlt_ : vs1.take cs.length = _)] at V113
   have KK115 := yF (yI (yF (Keep.refl h0 [a1]) K105) K108) K112
   have f116 := (f111.keep K112)
   have KK117 := yF (yI (Keep.refl h105 [a1]) K108) K112
   have f118 := ((F105.keep K108 nin0).other W112 (yS (Or.inr (W 34)) (Or.inr (W 36)) (by decide)))
   exact uG X112 hlk e112 hret (Q 21) (by decide) ⟨rfl, N112, KK115, b108, by omega, f116, _, _, _, _, F112, f118, V113, Or.inl ⟨rfl, rfl, rfl, hlat1⟩, hbd1, by omega⟩
 · refine yG m 0 #[rv a1, rv a2, .val .null, .unset, .unset] [] ?_
   refine yA (fun _ z_ => yC X0 (Q 0) rfl rfl z_) ?_
   refine yO (initO X0 hx hZ hown (W 18) (W 19) (W 20) e0 rfl (hM rfl) rfl (Q 1).2 (by decide) (W := 0) (qE rfl rfl) (by decide)) ?_
   intro T119 X119 e119
   refine yA (fun _ z_ => yC X119 (Q 2) rfl rfl z_) ?_
   refine yL (qZ X119 hZ (y := mN50) hown (W 287) (W 288) (W 290) (W 289) (W 291) (W 213) 0 (gvW hw a2 t2 O0 F1) e119 E1 (by decide) rfl (hM rfl) [] (rest := []) pd35 rfl rfl rfl rfl rfl (Q 3)) ?_
   rintro T120 _ _ h120 X120 e120 ⟨rfl, N120q, hq120⟩
   replace e120 := e120.trans hq120
   have N120 := Fr.app N0 N120q
   refine yA (fun _ z_ => XS.astoreN X120.here hx rfl (Q 4).2 rfl rfl rfl (yC X120 (Q 5) rfl rfl z_)) ?_
   refine yL (o_cN X120 hZ (y := mN31) (z := mN51) hown (W 292) (W 293) (o_nf hZ (o_NIs (y := mN2) (W 252))) (W 295) (W 296) (W 297) (W 205) 0 (slW hw a2 (ofNat cs.length) O0 F3 E1) e120 E1 (by decide) rfl (hM rfl) [] (rest := []) pd19 rfl rfl rfl rfl rfl (Q 6)) ?_
   rintro T121 _ _ h121 X121 e121 ⟨rfl, N121q, hq121⟩
   replace e121 := e121.trans hq121
   have N121 := Fr.app N120 N121q
   refine yA (fun _ z_ => qM X121 (Q 7) rfl rfl (yC X121 (Q 8) rfl rfl z_)) ?_
   refine yL (qZ X121 hZ (y := mN4) hown (W 300) (W 261) (W 263) (W 262) (W 264) (W 213) 0 (al1 hw a2 O0 CS F2) e121 E1 (by decide) rfl (hM rfl) [] (rest := []) pd16 rfl rfl rfl rfl rfl (Q 9)) ?_
   rintro T122 _ _ h122 X122 e122 ⟨rfl, N122q, hq122⟩
   replace e122 := e122.trans hq122
   have N122 := Fr.app N121 N122q
   refine yA (fun _ z_ => qF X122 19 41 rfl (Q 10) rfl ((if0 _ _).trans (teq (by decide)).1) (by decide) z_) ?_
   refine yO (getS2 X122 hx hZ hown (host := "") (Or.inl (W 21)) Via.refl e122 (Sc.ext O0.2) rfl (Q 22).2) ?_
   intro T123 X123 e123
   refine yA (fun _ z_ => qA X123 (Q 23) rfl ((if0 _ _).trans (feq hzc).1) (yC X123 (Q 24) rfl rfl z_)) ?_
   refine yO (yV X123 hZ hown (W 522) e123 F4 rfl rfl (Q 25)) ?_
   intro T124 X124 e124
   refine yA (fun _ z_ => qF X124 51 79 rfl (Q 26) rfl ((if0 _ _).trans (teq (by decide)).1) (by decide) (yC X124 (Q 27) rfl rfl (yH X124 (Q 28) z_))) ?_
   refine yG m 81 #[rv a1, rv a2, .val .null, rv t2, iv (ofNat cs.length)] [(.int (1 : Int32)), (.ref a1)] ?_
   refine qL (putFN X124 hx hZ hown (W 33) Via.refl e124 G2 E0 (Or.inr ⟨(W 34), rfl, hnm⟩) (W 9) (ty := .byte) (v' := (.int (1 : Int32))) (by decide) (by decide) (by decide) rfl rfl (Q 29).2) ?_
   intro T125 h125 X125 e125 W125
   have F125 := G2.same W125
   have K125 := Keep.of_wr W125
   have N125 := Fr.snoc X125 N122 (by omega : n0 ≤ a1)
   have zK125 := K125.1
   refine yA (fun _ z_ => yC X125 (Q 30) rfl rfl (yC X125 (Q 31) rfl rfl (yH X125 (Q 32) (yJ X125 (Q 33) rfl (yH X125 (Q 34) (XS.ishl X125.here hx rfl (Q 35).2 rfl z_)))))) ?_
   refine yG m 91 #[rv a1, rv a2, .val .null, rv t2, iv (ofNat cs.length)] [(.int ((ofNat cs.length) <<< ((1 : Int32) &&& 31))), (.int (0 : Int32)), (.ref t2), (.ref a1)] ?_
   rw [show ((ofNat cs.length) <<< ((1 : Int32) &&& 31)) = (ofNat (2 * cs.length)) from (o_shl (by omega))]
   have O126 : Old Z n0 h125 := O0.keep K125 (allS (by omega) all0)
   have f127 := (A1.keep K125 (yB (by omega) nin0))
   refine yL (qD X125 hZ (y := mN47) hown (W 301) (W 302) (W 303) (W 304) 1 (crW hw t2 _ vs1 0 (2 * cs.length) (2 * 16) O126 (Nat.zero_le _) (by omega) (by omega) hvl1 f127 (fun q => absurd q.2 (by omega))) e125 (by decide) rfl (hM rfl) [(.ref t2), (.int (0 : Int32)), (.int (ofNat (2 * cs.length)))] (rest := [(.ref a1)]) pd25 rfl rfl rfl rfl rfl (Q 36)) ?_
   rintro T128 _ _ h128 X128 e128 ⟨N128q, b128, k128, rfl, K128, zb128, zc128, V128⟩
   have zK128 := K128.1
   have N128 := Fr.app N125 N128q
   have KK129 := yI (yF (Keep.refl h0 [a1]) K125) K128
   have f130 := ((G1.other W125 (yS (Or.inr (W 36)) (Or.inr (W 34)) (by decide))).keep K128 nin0)
   have f131 := (E0.keep KK129)
   refine qL (putF X128 hx hZ hown (host := "") (Or.inl (W 35)) Via.refl e128 f130 f131 (Or.inr ⟨(W 36), rfl, hnm⟩) (W 9) (ty := (.array .byte)) (by decide) rfl rfl rfl rfl (Q 37).2) ?_
   intro T132 h132 X132 e132 W132
   have F132 := f130.same W132
   have K132 := Keep.of_wr W132
   have N132 := Fr.snoc X132 N128 (by omega : n0 ≤ a1)
   have zK132 := K132.1
   refine yG m 97 #[rv a1, rv a2, .val .null, rv t2, iv (ofNat cs.length)] [] ?_
   have f134 := (V128.keep K132 (yB (by omega) nin0))
   have V133 := f134
   rw [Nat.sub_zero, List.drop_zero, (hwd_ : vs1.take (2 * cs.length) = _)] at V133
   have KK135 := yF (yI (yF (Keep.refl h0 [a1]) K125) K128) K132
   have f136 := (f131.keep K132)
   have KK137 := yF (yI (Keep.refl h125 [a1]) K128) K132
   have f138 := ((F125.keep K128 nin0).other W132 (yS (Or.inr (W 34)) (Or.inr (W 36)) (by decide)))
   exact uG X132 hlk e132 hret (Q 21) (by decide) ⟨rfl, N132, KK135, b128, by omega, f136, _, _, _, _, F132, f138, V133, Or.inr ⟨rfl, rfl, rfl, cw1, hcm1, hcw1⟩, hbd1, by omega⟩
theorem d46 : yX jdk_42_method_53_code [(0, .aload_n 0, 1), (1, .aload_n 1, 1), (2, .aconst_null, 1), (3, .invokespecial 489, 3), (6, .return_, 1)] := by decide +kernel
theorem pd38 : parseMethodDescriptor "(Ljava/lang/AbstractStringBuilder;Ljava/lang/Void;)V" = some ⟨[(.object sN4), (.object "java/lang/Void")], none⟩ := by decide +kernel
abbrev sSBR : Room := { frames := 4, cells := 1, slots := 40, locals := 87 }
theorem sSB (hw : yQ a0 Z) (a1 a2 t2 : Nat) (k2 : ClassId) (cs : List Int32) (u1 u2 : Value) (O0 : Old Z n0 h0) (CS : uE Z) (g1 : n0 ≤ a1) (hl : cs.length < 16) (E0 : Exa Z h0 a1 sN2) (G1 : Fld Z h0 a1 sN2 "value" "[B" u1) (G2 : Fld Z h0 a1 sN2 "coder" "B" u2) (d1 : a1 ≠ a2) (d2 : a1 ≠ t2) (S1 : uM Z h0 a2 t2 k2 cs) :
 yZ l Z (⟨sN2, "<init>", "(Ljava/lang/StringBuilder;)V"⟩ : MethodName) jdk_42_method_53_code 2 none [] sSBR #[(.ref a1), (.ref a2)] h0 (fun v h L => v = none ∧ Fr n0 L ∧ Keep h0 h [a1] ∧ ∃ b : Nat, h0.size ≤ b ∧ yU Z h a1 b cs) := by
 refine yK (plainFor_of_name pd8) ?_
 intro p e s m below meth c T0 X0 hx hby hml hZ hown hnm hret hlk e0
 have hM := @qK _ _ hml
 have W := qC hw
 have Q := @yR p c _ _ _ hx hby d46
 have N0 := Fr.nil n0
 have zO := yM O0
 have hlt1 := S1.lt
 have la1 : a1 < h0.size := E0.lt
 refine yP 0 rfl rfl ?_
 refine yG m 0 #[rv a1, rv a2] [] ?_
 refine yA (fun _ z_ => yC X0 (Q 0) rfl rfl (yC X0 (Q 1) rfl rfl (XS.aconstNull X0.here hx rfl (Q 2).2 z_))) ?_
 refine yL (o_cI X0 hZ (y := (⟨sN2, "<init>", "(Ljava/lang/AbstractStringBuilder;Ljava/lang/Void;)V"⟩ : MethodName)) rfl hown (W 284) (W 285) (W 286) (W 10) 0 (sAV hw a1 a2 t2 k2 cs _ _ O0 CS (by omega) hl E0 G1 G2 (by omega) (by omega) S1) e0 (by decide) rfl (hM rfl) (a := a1) [(.ref a2), .null] (rest := []) pd38 rfl rfl rfl rfl rfl (Q 3)) ?_
 rintro T101 _ _ h101 X101 e101 ⟨rfl, N101q, K101, b101, zb101, S101⟩
 have zK101 := K101.1
 have N101 := Fr.app N0 N101q
 have E101 := S101.1
 exact uG X101 hlk e101 hret (Q 4) (by decide) ⟨rfl, N101, K101, _, by omega, S101⟩
theorem d45 : yX jdk_67_method_42_code [(0, .new 18, 3), (3, .dup, 1), (4, .aload_n 0, 1), (5, .invokespecial 137, 3), (8, .areturn, 1)] := by decide +kernel
theorem pd39 : parseMethodDescriptor "(Ljava/lang/StringBuilder;)V" = some ⟨[(.object sN14)], none⟩ := by decide +kernel
abbrev tsWR : Room := { frames := 5, cells := 2, slots := 44, locals := 101 }
theorem tsW (hw : yQ a0 Z) (a2 t2 : Nat) (k2 : ClassId) (cs : List Int32) (O0 : Old Z n0 h0) (CS : uE Z) (hl : cs.length < 16) (S1 : uM Z h0 a2 t2 k2 cs) :
 yZ l Z mN21 jdk_67_method_42_code 1 (some (.object sN2)) [] tsWR #[(.ref a2)] h0 (fun v h L => Fr n0 L ∧ ∃ (b t : Nat), v = some (.ref b) ∧ Keep h0 h [] ∧ h0.size ≤ b ∧ h0.size ≤ t ∧ yU Z h b t cs) := by
 refine yK (plainFor_of_name pd28) ?_
 intro p e s m below meth c T0 X0 hx hby hml hZ hown hnm hret hlk e0
 have hM := @qK _ _ hml
 have W := qC hw
 have Q := @yR p c _ _ _ hx hby d45
 have N0 := Fr.nil n0
 have zO := yM O0
 have hlt1 := S1.lt
 refine yP 0 rfl rfl ?_
 refine yG m 0 #[rv a2] [] ?_
 have zo := newO X0 hx hZ hown (W 280) (W 9) (W 10) e0 (g := (mkF m 0 #[rv a2] [])) rfl (Q 0).2 (by decide) (by decide)
 obtain ⟨T101, h101, X101, e101, E101, A101, D101, -, st101⟩ := zo
 have zo : ∃ z, z = h0.size := ⟨_, rfl⟩
 obtain ⟨b101, g101⟩ := zo
 rw [← g101] at A101 D101 st101
 have K101 : Keep h0 h101 [] := (Keep.refl _ _).ext E101
 have l101 : b101 < h101.size := A101.lt
 refine yA st101 ?_
 have zK101 := K101.1
 refine yA (fun _ z_ => qJ X101 (Q 1) rfl rfl (yC X101 (Q 2) rfl rfl z_)) ?_
 have O102 : Old Z n0 h101 := O0.keep K101 all0
 have f103 := (S1.keep K101 nin0 nin0)
 have F_value_b101 : Fld Z h101 b101 sN2 "value" "[B" .null := D101 (Or.inr (W 36)) (ty := (.array .byte)) (by decide)
 have F_coder_b101 : Fld Z h101 b101 sN2 "coder" "B" (.int (0 : Int32)) := D101 (Or.inr (W 34)) (ty := .byte) (by decide)
 refine yL (o_cI X101 hZ (y := (⟨sN2, "<init>", "(Ljava/lang/StringBuilder;)V"⟩ : MethodName)) rfl hown (W 281) (W 282) (W 283) (W 10) 1 (sSB hw b101 a2 t2 k2 cs _ _ O102 CS (by omega) hl A101 F_value_b101 F_coder_b101 (by omega) (by omega) f103) e101 (by decide) rfl (hM rfl) (a := b101) [(.ref a2)] (rest := [(.ref b101)]) pd39 rfl rfl rfl rfl rfl (Q 3)) ?_
 rintro T104 _ _ h104 X104 e104 ⟨rfl, N104q, K104, b104, zb104, S104⟩
 have zK104 := K104.1
 have N104 := Fr.app N0 N104q
 have E104 := S104.1
 have KK105 := yN (yI (Keep.refl h0 []) K101) K104
 exact yW X104 hlk e104 hret rfl (uA rfl rfl) (Q 4) (by decide) ⟨N104, b101, b104, rfl, KK105, by omega, by omega, S104⟩
theorem o_cntN {rs : List Nat} {r : Nat} (h : rs.length < 2147483647) : ofNat rs.length + (1 : Int32) = ofNat (rs ++ [r]).length := by
 rw [List.length_append, List.length_singleton]; exact uD (b := 1) (by omega)
theorem o_tkR {rs : List Nat} {r : Nat} {vs : List Value} (h : vs.take rs.length = rs.map Value.ref) (q : rs.length < vs.length) : (vs.set rs.length (.ref r)).take (rs ++ [r]).length = (rs ++ [r]).map Value.ref := by
 rw [List.length_append, List.length_singleton, o_tks _ _ _ q, h, List.map_append]; rfl
theorem d20 : yX jdk_22_method_1_code [(0, .aload_n 0, 1), (1, .invokespecial 1, 3), (4, .return_, 1)] := by decide +kernel
theorem pd40 : plainName "java/util/AbstractCollection" = true := by first | (simp [plainName, overriddenIn]; done) | decide +kernel
abbrev abcIR : Room := { frames := 1, cells := 0, slots := 0, locals := 12 }
theorem abcI (hw : yQ a0 Z) (a1 : Nat) (O0 : Old Z n0 h0)  :
 yZ l Z mN52 jdk_22_method_1_code 1 none [] abcIR #[(.ref a1)] h0 (fun v h L => v = none ∧ Fr n0 L ∧ h = h0) := by
 refine yK (plainFor_of_name pd40) ?_
 intro p e s m below meth c T0 X0 hx hby hml hZ hown hnm hret hlk e0
 have hM := @qK _ _ hml
 have W := qC hw
 have Q := @yR p c _ _ _ hx hby d20
 have N0 := Fr.nil n0
 have zO := yM O0
 refine yP 0 rfl rfl ?_
 refine yG m 0 #[rv a1] [] ?_
 refine yA (fun _ z_ => yC X0 (Q 0) rfl rfl z_) ?_
 refine yO (initO X0 hx hZ hown (W 108) (W 19) (W 20) e0 rfl (hM rfl) rfl (Q 1).2 (by decide) (W := 0) (qE rfl rfl) (by decide)) ?_
 intro T101 X101 e101
 exact uG X101 hlk e101 hret (Q 2) (by decide) ⟨rfl, N0, rfl⟩
theorem d19 : yX jdk_39_method_1_code [(0, .aload_n 0, 1), (1, .invokespecial 1, 3), (4, .aload_n 0, 1), (5, .iconst 0, 1), (6, .putfield 7, 3), (9, .return_, 1)] := by decide +kernel
theorem pd41 : plainName sN16 = true := by first | (simp [plainName, overriddenIn]; done) | decide +kernel
abbrev ablIR : Room := { frames := 2, cells := 0, slots := 0, locals := 24 }
theorem ablI (hw : yQ a0 Z) (a1 : Nat) (u1 : Value) (O0 : Old Z n0 h0) (g1 : n0 ≤ a1) (E1 : Exa Z h0 a1 sN7) (F1 : Fld Z h0 a1 sN16 sN23 "I" u1) :
 yZ l Z (⟨sN16, "<init>", "()V"⟩ : MethodName) jdk_39_method_1_code 1 none [] ablIR #[(.ref a1)] h0 (fun v h L => v = none ∧ Fr n0 L ∧ Keep h0 h [a1] ∧ Exa Z h a1 sN7 ∧ Fld Z h a1 sN16 sN23 "I" (.int 0) ∧ (∀ (f d : String) (u : Value), Fld Z h0 a1 sN7 f d u → (f = "size" ∧ d = "I" ∨ f = sN20 ∧ d = sN8) → Fld Z h a1 sN7 f d u)) := by
 refine yK (plainFor_of_name pd41) ?_
 intro p e s m below meth c T0 X0 hx hby hml hZ hown hnm hret hlk e0
 have hM := @qK _ _ hml
 have W := qC hw
 have Q := @yR p c _ _ _ hx hby d19
 have N0 := Fr.nil n0
 have zO := yM O0
 refine yP 0 rfl rfl ?_
 refine yG m 0 #[rv a1] [] ?_
 refine yA (fun _ z_ => yC X0 (Q 0) rfl rfl z_) ?_
 refine yL (o_cI X0 hZ (y := mN52) rfl hown (W 102) (W 103) (W 107) (W 106) 0 (abcI hw a1 O0) e0 (by decide) rfl (hM rfl) (a := a1) [] (rest := []) pd33 rfl rfl rfl rfl rfl (Q 1)) ?_
 rintro T101 _ _ h101 X101 e101 ⟨rfl, N101q, hq101⟩
 replace e101 := e101.trans hq101
 have N101 := Fr.app N0 N101q
 refine yA (fun _ z_ => yC X101 (Q 2) rfl rfl (yH X101 (Q 3) z_)) ?_
 refine qL (putF X101 hx hZ hown (host := "") (Or.inl (W 109)) Via.refl e101 F1 E1 (Or.inl (W 110)) (W 91) (ty := .int) (by decide) rfl rfl rfl rfl (Q 4).2) ?_
 intro T102 h102 X102 e102 W102
 have F102 := F1.same W102
 have K102 := Keep.of_wr W102
 have N102 := Fr.snoc X102 N101 (by omega : n0 ≤ a1)
 have zK102 := K102.1
 have f103 := (E1.keep K102)
 exact uG X102 hlk e102 hret (Q 5) (by decide) ⟨rfl, N102, K102, f103, F102, fun f_ d_ u_ q_ hq_ => by
  rcases hq_ with ⟨rfl, rfl⟩ | ⟨rfl, rfl⟩
  · exact q_.other W102 (yS (Or.inl (W 162)) (Or.inl (W 110)) (by decide))
  · exact q_.other W102 (yS (Or.inl (W 113)) (Or.inl (W 110)) (by decide))⟩
theorem d18 : yX jdk_38_method_2_code [(0, .aload_n 0, 1), (1, .invokespecial 1, 3), (4, .aload_n 0, 1), (5, .getstatic 39, 3), (8, .putfield 9, 3), (11, .return_, 1)] := by decide +kernel
theorem pd42 : plainName sN7 = true := by first | (simp [plainName, overriddenIn]; done) | decide +kernel
abbrev alIR : Room := { frames := 3, cells := 0, slots := 0, locals := 36 }
theorem alI (hw : yQ a0 Z) (a1 D : Nat) (u1 u3 : Value) (O0 : Old Z n0 h0) (DE : o_DE Z D) (g1 : n0 ≤ a1) (E1 : Exa Z h0 a1 sN7) (F1 : Fld Z h0 a1 sN16 sN23 "I" u1) (F2 : Fld Z h0 a1 sN7 "size" "I" (.int 0)) (F3 : Fld Z h0 a1 sN7 sN20 sN8 u3) :
 yZ l Z mN53 jdk_38_method_2_code 1 none [] alIR #[(.ref a1)] h0 (fun v h L => v = none ∧ Fr n0 L ∧ Keep h0 h [a1] ∧ o_AL Z h a1 a1 []) := by
 refine yK (plainFor_of_name pd42) ?_
 intro p e s m below meth c T0 X0 hx hby hml hZ hown hnm hret hlk e0
 have hM := @qK _ _ hml
 have W := qC hw
 have Q := @yR p c _ _ _ hx hby d18
 have N0 := Fr.nil n0
 have zO := yM O0
 have zo := DE
 obtain ⟨SD_, kD, AD_⟩ := zo
 have KZ : Keep Z.heap h0 [] := (Keep.refl _ _).ext O0.2
 have VD := AD_.keep KZ nin0
 refine yP 0 rfl rfl ?_
 refine yG m 0 #[rv a1] [] ?_
 refine yA (fun _ z_ => yC X0 (Q 0) rfl rfl z_) ?_
 refine yG m 1 #[rv a1] [(.ref a1)] ?_
 refine yL (o_cI X0 hZ (y := (⟨sN16, "<init>", "()V"⟩ : MethodName)) rfl hown (W 96) (W 97) (W 101) (W 100) 0 (ablI hw a1 _ O0 (by omega) E1 F1) e0 (by decide) rfl (hM rfl) (a := a1) [] (rest := []) pd33 rfl rfl rfl rfl rfl (Q 1)) ?_
 rintro T101 _ _ h101 X101 e101 ⟨rfl, N101q, K101, E101, F101, Fo101⟩
 have zK101 := K101.1
 have N101 := Fr.app N0 N101q
 have Fs101 := Fo101 "size" "I" _ F2 (Or.inl ⟨rfl, rfl⟩)
 have Fe101 := Fo101 sN20 sN8 _ F3 (Or.inr ⟨rfl, rfl⟩)
 refine yA (fun _ z_ => yC X101 (Q 2) rfl rfl z_) ?_
 have O103 : Old Z n0 h101 := O0.keep K101 (allS (by omega) all0)
 refine yO (getS2 X101 hx hZ hown (host := "") (Or.inl (W 111)) Via.refl e101 (SD_.ext O103.2) rfl (Q 3).2) ?_
 intro T102 X102 e102
 refine qL (putF X102 hx hZ hown (host := "") (Or.inl (W 112)) Via.refl e102 Fe101 E101 (Or.inl (W 113)) (W 91) (ty := (.array (.object sN6))) (by decide) rfl rfl rfl rfl (Q 4).2) ?_
 intro T104 h104 X104 e104 W104
 have F104 := Fe101.same W104
 have K104 := Keep.of_wr W104
 have N104 := Fr.snoc X104 N101 (by omega : n0 ≤ a1)
 have zK104 := K104.1
 have KK105 := yF (yF (Keep.refl h0 [a1]) K101) K104
 have f106 := (E101.keep K104)
 have f107 := (F101.other W104 (yS (Or.inl (W 110)) (Or.inl (W 113)) (by decide)))
 have f108 := (Fs101.other W104 (yS (Or.inl (W 162)) (Or.inl (W 113)) (by decide)))
 exact uG X104 hlk e104 hret (Q 5) (by decide) ⟨rfl, N104, KK105, f106, D, 0, f107, f108, F104, Or.inl ⟨rfl, rfl, DE⟩⟩
theorem o_r1k {Z : State} {h h' : Heap} {x y ea : Nat} {rs : List Nat} (r : (rs = [] ∧ x = y ∧ o_DE Z ea) ∨ (ea = y ∧ x ≠ ea ∧ ∃ (kE : ClassId) (vs : List Value), Arv Z h ea kE uW (ofNat 10) vs .null ∧ Exa Z h ea sN8 ∧ Ovr Z kE sN6 ∧ vs.length = 10 ∧ vs.take rs.length = rs.map Value.ref)) (K : Keep h h' [x]) :
 (rs = [] ∧ x = y ∧ o_DE Z ea) ∨ (ea = y ∧ x ≠ ea ∧ ∃ (kE : ClassId) (vs : List Value), Arv Z h' ea kE uW (ofNat 10) vs .null ∧ Exa Z h' ea sN8 ∧ Ovr Z kE sN6 ∧ vs.length = 10 ∧ vs.take rs.length = rs.map Value.ref) := by
 refine r.imp id ?_
 rintro ⟨rfl, q, kE, vs, A, E, r⟩
 exact ⟨rfl, q, kE, vs, A.keep K (fun z => q (List.mem_singleton.mp z).symm), E.keep K, r⟩
theorem d59 : yX jdk_29_method_65_code [(0, .iload_n 0, 1), (1, .iload_n 1, 1), (2, .if_icmp .lt 7, 3), (9, .iload_n 1, 1), (10, .ireturn, 1), (5, .iload_n 0, 1), (6, .goto 4, 3)] := by decide +kernel
abbrev mxWR : Room := { frames := 0, cells := 0, slots := 0, locals := 0 }
theorem mxW (hw : yQ a0 Z) (p1 p2 : Int32) (O0 : Old Z n0 h0)  :
 yZ l Z (⟨"java/lang/Math", "max", "(II)I"⟩ : MethodName) jdk_29_method_65_code 2 (some .int) [] mxWR #[(.int p1), (.int p2)] h0 (fun v h L => v = some (.int (if p1 < p2 then p2 else p1)) ∧ Fr n0 L ∧ h = h0) := by
 refine yK (Jvm.Free.JP.mathPlain rfl (by decide +kernel)) ?_
 intro p e s m below meth c T0 X0 hx hby hml hZ hown hnm hret hlk e0
 have W := qC hw
 have Q := @yR p c _ _ _ hx hby d59
 have N0 := Fr.nil n0
 have zO := yM O0
 refine yP 0 rfl rfl ?_
 refine yG m 0 #[iv p1, iv p2] [] ?_
 refine yA (fun _ z_ => yE X0 (Q 0) rfl (yE X0 (Q 1) rfl z_)) ?_
 by_cases c101 : p1 < p2
 · refine yA (fun _ z_ => qG X0 2 9 rfl (Q 2) rfl (tlt c101).1 (by decide) (yE X0 (Q 3) rfl z_)) ?_
   exact yW X0 hlk e0 hret rfl o_iI (Q 4) (by decide) ⟨by rw [if_pos c101] <;> rfl, N0, rfl⟩
 · refine yA (fun _ z_ => qH X0 (Q 2) rfl (flt c101).1 (yE X0 (Q 5) rfl (yT X0 6 10 rfl (Q 6) (by decide) z_))) ?_
   exact yW X0 hlk e0 hret rfl o_iI (Q 4) (by decide) ⟨by rw [if_neg c101] <;> rfl, N0, rfl⟩
theorem d58 : yX jdk_38_method_6_code [(0, .aload_n 0, 1), (1, .getfield 9, 3), (4, .arraylength, 1), (5, .istore_n 2, 1), (6, .iload_n 2, 1), (7, .ifCond .gt 13, 3), (10, .aload_n 0, 1), (11, .getfield 9, 3), (14, .getstatic 39, 3), (17, .if_acmp .eq 28, 3), (45, .aload_n 0, 1), (46, .bipush 10, 2), (48, .iload_n 1, 1), (49, .invokestatic 79, 3), (52, .anewarray 7, 3), (55, .dup_x1, 1), (56, .putfield 9, 3), (59, .areturn, 1)] := by decide +kernel
abbrev grIR : Room := { frames := 1, cells := 1, slots := 10, locals := 14 }
theorem grI (hw : yQ a0 Z) (a1 D : Nat) (mc : Int32) (O0 : Old Z n0 h0) (DE : o_DE Z D) (g1 : n0 ≤ a1) (E1 : Exa Z h0 a1 sN7) (F1 : Fld Z h0 a1 sN16 sN23 "I" (.int mc)) (F2 : Fld Z h0 a1 sN7 "size" "I" (.int 0)) (F3 : Fld Z h0 a1 sN7 sN20 sN8 (.ref D)) :
 yZ l Z (⟨sN7, "grow", "(I)[Ljava/lang/Object;"⟩ : MethodName) jdk_38_method_6_code 4 (some (.array (.object sN6))) [] grIR #[(.ref a1), (.int (1 : Int32))] h0 (fun v h L => Fr n0 L ∧ Keep h0 h [a1] ∧ ∃ (b : Nat) (kb : ClassId), v = some (.ref b) ∧ h0.size ≤ b ∧ Exa Z h a1 sN7 ∧ Fld Z h a1 sN16 sN23 "I" (.int mc) ∧ Fld Z h a1 sN7 "size" "I" (.int 0) ∧ Fld Z h a1 sN7 sN20 sN8 (.ref b) ∧ Arv Z h b kb uW (ofNat 10) [.null, .null, .null, .null, .null, .null, .null, .null, .null, .null] .null ∧ Exa Z h b sN8 ∧ Ovr Z kb sN6) := by
 refine yK (plainFor_of_name pd42) ?_
 intro p e s m below meth c T0 X0 hx hby hml hZ hown hnm hret hlk e0
 have hM := @qK _ _ hml
 have W := qC hw
 have Q := @yR p c _ _ _ hx hby d58
 have N0 := Fr.nil n0
 have zO := yM O0
 have zo := DE
 obtain ⟨SD_, kD, AD_⟩ := zo
 have KZ : Keep Z.heap h0 [] := (Keep.refl _ _).ext O0.2
 have VD := AD_.keep KZ nin0
 have la1 := o_l E1.lt
 refine yP 2 rfl rfl ?_
 refine yG m 0 #[rv a1, iv (1 : Int32), .unset, .unset] [] ?_
 refine yA (fun _ z_ => yC X0 (Q 0) rfl rfl z_) ?_
 refine yO (yV X0 hZ hown (W 112) e0 F3 rfl rfl (Q 1)) ?_
 intro T101 X101 e101
 have zo := VD
 obtain ⟨c102, Ar102, q102, S102, M102, H102, U102⟩ := zo
 refine yA (X101.arraylength hx (by rw [e101]; exact Ar102.1) (State.isArrayOf_alike hZ.alike Ar102.2.1) (g := (mkF m 4 #[rv a1, iv (1 : Int32), .unset, .unset] [(.ref D)])) rfl rfl (Q 2).2) ?_
 rw [len_of S102 M102]
 refine yA (fun _ z_ => XS.istoreN X101.here hx rfl (Q 3).2 rfl rfl (yE X101 (Q 4) rfl (qA X101 (Q 5) rfl ((if0 _ _).trans (flt (by decide)).2.2.1) (yC X101 (Q 6) rfl rfl z_)))) ?_
 refine yO (yV X101 hZ hown (W 112) e101 F3 rfl rfl (Q 7)) ?_
 intro T103 X103 e103
 refine yO (getS2 X103 hx hZ hown (host := "") (Or.inl (W 111)) Via.refl e103 (SD_.ext O0.2) rfl (Q 8).2) ?_
 intro T104 X104 e104
 refine yG m 17 #[rv a1, iv (1 : Int32), iv (0 : Int32), .unset] [(.ref D), (.ref D)] ?_
 refine yA (fun _ z_ => Jvm.RoadKit.acmp (g := (mkF m 17 #[rv a1, iv (1 : Int32), iv (0 : Int32), .unset] [(.ref D), (.ref D)])) X104 hx rfl rfl rfl (pc0 := 17) (pc' := 45) (same := true) rfl (Q 9).2 rfl (decide_eq_true rfl) (by decide) (by decide) (yC X104 (Q 10) rfl rfl (yY X104 (Q 11) (yE X104 (Q 12) rfl z_)))) ?_
 refine yL (qD X104 hZ (y := (⟨"java/lang/Math", "max", "(II)I"⟩ : MethodName)) hown (W 338) (W 339) (W 313) (W 340) 1 (mxW hw (10 : Int32) (1 : Int32) O0) e104 (by decide) rfl (hM rfl) [(.int (10 : Int32)), (.int (1 : Int32))] (rest := [(.ref a1)]) pd24 rfl rfl rfl rfl rfl (Q 13)) ?_
 rintro T105 _ _ h105 X105 e105 ⟨rfl, N105q, hq105⟩
 replace e105 := e105.trans hq105
 have N105 := Fr.app N0 N105q
 refine yG m 52 #[rv a1, iv (1 : Int32), iv (0 : Int32), .unset] [(.int (if (10 : Int32) < (1 : Int32) then (1 : Int32) else (10 : Int32))), (.ref a1)] ?_
 rw [show (if (10 : Int32) < (1 : Int32) then (1 : Int32) else (10 : Int32)) = (10 : Int32) from (by decide)]
 have zo := newRE X105 hx hZ hown (W 341) (W 342) e105 (g := (mkF m 52 #[rv a1, iv (1 : Int32), iv (0 : Int32), .unset] [(.int (10 : Int32)), (.ref a1)])) rfl (Q 14).2 rfl (by decide) (cap := 10) (by decide) (by decide) (by decide) (by decide) (ad := sN8) (by decide +kernel)
 obtain ⟨T106, h106, k106, X106, e106, E106, A106, Q106, Ov106, st106⟩ := zo
 have zo : ∃ z, z = h0.size := ⟨_, rfl⟩
 obtain ⟨b106, g106⟩ := zo
 rw [← g106] at A106 Q106 st106
 have K106 : Keep h0 h106 [] := (Keep.refl _ _).ext E106
 have l106 : b106 < h106.size := A106.lt
 refine yA st106 ?_
 have zK106 := K106.1
 have V106 : Arv Z h106 b106 k106 uW (10 : Int32) [.null, .null, .null, .null, .null, .null, .null, .null, .null, .null] .null := (Arv.new A106 (by decide)).pad (pad_rep [] .null 10)
 refine yA (fun _ z_ => XS.dupX1 X106.here hx rfl (Q 15).2 rfl rfl rfl z_) ?_
 have f107 := (F3.keep K106 nin0)
 have f108 := (E1.keep K106)
 refine qL (putF X106 hx hZ hown (host := "") (Or.inl (W 112)) Via.refl e106 f107 f108 (Or.inl (W 113)) (W 91) (ty := (.array (.object sN6))) (by decide) rfl rfl rfl rfl (Q 16).2) ?_
 intro T109 h109 X109 e109 W109
 have F109 := f107.same W109
 have K109 := Keep.of_wr W109
 have N109 := Fr.snoc X109 N105 (by omega : n0 ≤ a1)
 have zK109 := K109.1
 have KK110 := yF (yI (Keep.refl h0 [a1]) K106) K109
 have f111 := (f108.keep K109)
 have f112 := ((F1.keep K106 nin0).other W109 (yS (Or.inl (W 110)) (Or.inl (W 113)) (by decide)))
 have f113 := ((F2.keep K106 nin0).other W109 (yS (Or.inl (W 162)) (Or.inl (W 113)) (by decide)))
 have f114 := (V106.keep K109 (yB (by omega) nin0))
 have f115 := (Q106.keep K109)
 exact yW X109 hlk e109 hret rfl (uA rfl rfl) (Q 17) (by decide) ⟨N109, KK110, b106, _, rfl, by omega, f111, f112, f113, F109, f114, f115, Ov106⟩
theorem d57 : yX jdk_38_method_7_code [(0, .aload_n 0, 1), (1, .aload_n 0, 1), (2, .getfield 48, 3), (5, .iconst 1, 1), (6, .iadd, 1), (7, .invokevirtual 69, 3), (10, .areturn, 1)] := by decide +kernel
theorem pd43 : parseMethodDescriptor "(I)[Ljava/lang/Object;" = some ⟨[.int], some (.array (.object sN6))⟩ := by decide +kernel
abbrev gr0R : Room := { frames := 2, cells := 1, slots := 10, locals := 29 }
theorem gr0 (hw : yQ a0 Z) (a1 D : Nat) (mc : Int32) (O0 : Old Z n0 h0) (DE : o_DE Z D) (g1 : n0 ≤ a1) (E1 : Exa Z h0 a1 sN7) (F1 : Fld Z h0 a1 sN16 sN23 "I" (.int mc)) (F2 : Fld Z h0 a1 sN7 "size" "I" (.int 0)) (F3 : Fld Z h0 a1 sN7 sN20 sN8 (.ref D)) :
 yZ l Z (⟨sN7, "grow", sN19⟩ : MethodName) jdk_38_method_7_code 1 (some (.array (.object sN6))) [] gr0R #[(.ref a1)] h0 (fun v h L => Fr n0 L ∧ Keep h0 h [a1] ∧ ∃ (b : Nat) (kb : ClassId), v = some (.ref b) ∧ h0.size ≤ b ∧ Exa Z h a1 sN7 ∧ Fld Z h a1 sN16 sN23 "I" (.int mc) ∧ Fld Z h a1 sN7 "size" "I" (.int 0) ∧ Fld Z h a1 sN7 sN20 sN8 (.ref b) ∧ Arv Z h b kb uW (ofNat 10) [.null, .null, .null, .null, .null, .null, .null, .null, .null, .null] .null ∧ Exa Z h b sN8 ∧ Ovr Z kb sN6) := by
 refine yK (plainFor_of_name pd42) ?_
 intro p e s m below meth c T0 X0 hx hby hml hZ hown hnm hret hlk e0
 have hM := @qK _ _ hml
 have W := qC hw
 have Q := @yR p c _ _ _ hx hby d57
 have N0 := Fr.nil n0
 have zO := yM O0
 have zo := DE
 obtain ⟨SD_, kD, AD_⟩ := zo
 have KZ : Keep Z.heap h0 [] := (Keep.refl _ _).ext O0.2
 have VD := AD_.keep KZ nin0
 refine yP 0 rfl rfl ?_
 refine yG m 0 #[rv a1] [] ?_
 refine yA (fun _ z_ => yC X0 (Q 0) rfl rfl (yC X0 (Q 1) rfl rfl z_)) ?_
 refine yO (yV X0 hZ hown (W 161) e0 F2 rfl rfl (Q 2)) ?_
 intro T101 X101 e101
 refine yA (fun _ z_ => yH X101 (Q 3) (XS.iadd X101.here hx rfl (Q 4).2 rfl z_)) ?_
 refine yG m 7 #[rv a1] [(.int ((0 : Int32) + (1 : Int32))), (.ref a1)] ?_
 rw [show ((0 : Int32) + (1 : Int32)) = (1 : Int32) from (by decide)]
 refine yL (o_callP X101 hx hZ (y := (⟨sN7, "grow", "(I)[Ljava/lang/Object;"⟩ : MethodName)) hown (W 333) (W 334) (W 336) (W 335) (W 337) (by decide) (qY (W := 0) (grI hw a1 D mc O0 DE (by omega) E1 F1 F2 F3) hZ (W 337) (W 92) (by decide) (by decide)) e101 E1 (by decide) (by decide) rfl (hM rfl) (argsL := [(.int (1 : Int32))]) (rest := []) (lenOf pd43 rfl) rfl rfl (qE rfl rfl) (Q 5).2) ?_
 rintro T102 _ _ h102 X102 e102 ⟨N102q, K102, b102, kb102, rfl, zb102, E102, Fa102, Fb102, Fc102, V102, Q102, Ov102⟩
 have zK102 := K102.1
 have N102 := Fr.app N0 N102q
 have lb102 := o_l V102.lt
 exact yW X102 hlk e102 hret rfl (uA rfl rfl) (Q 6) (by decide) ⟨N102, K102, b102, _, rfl, by omega, E102, Fa102, Fb102, Fc102, V102, Q102, Ov102⟩
theorem d56 : yX jdk_38_method_24_code [(0, .iload_n 3, 1), (1, .aload_n 2, 1), (2, .arraylength, 1), (3, .if_icmp .ne 8, 3), (6, .aload_n 0, 1), (7, .invokevirtual 129, 3), (10, .astore_n 2, 1), (11, .aload_n 2, 1), (12, .iload_n 3, 1), (13, .aload_n 1, 1), (14, .aastore, 1), (15, .aload_n 0, 1), (16, .iload_n 3, 1), (17, .iconst 1, 1), (18, .iadd, 1), (19, .putfield 48, 3), (22, .return_, 1)] := by decide +kernel
theorem pd44 : parseMethodDescriptor sN19 = some ⟨[], some (.array (.object sN6))⟩ := by decide +kernel
abbrev adP0R : Room := { frames := 3, cells := 1, slots := 10, locals := 41 }
theorem adP0 (hw : yQ a0 Z) (a1 y1 r1 D : Nat) (rs : List Nat) (mc : Int32) (ea : Nat) (O0 : Old Z n0 h0) (DE : o_DE Z D) (g1 : n0 ≤ a1) (g2 : n0 ≤ y1) (hl : rs.length < 10) (ER : Exa Z h0 r1 sN2) (E1 : Exa Z h0 a1 sN7) (F1 : Fld Z h0 a1 sN16 sN23 "I" (.int mc)) (F2 : Fld Z h0 a1 sN7 "size" "I" (.int (ofNat rs.length))) (F3 : Fld Z h0 a1 sN7 sN20 sN8 (.ref ea)) (r1_ : (rs = [] ∧ a1 = y1 ∧ o_DE Z ea) ∨ (ea = y1 ∧ a1 ≠ ea ∧ ∃ (kE : ClassId) (vs : List Value), Arv Z h0 ea kE uW (ofNat 10) vs .null ∧ Exa Z h0 ea sN8 ∧ Ovr Z kE sN6 ∧ vs.length = 10 ∧ vs.take rs.length = rs.map Value.ref)) :
 yZ l Z (⟨sN7, "add", "(Ljava/lang/Object;[Ljava/lang/Object;I)V"⟩ : MethodName) jdk_38_method_24_code 4 none [] adP0R #[(.ref a1), (.ref r1), (.ref ea), (.int (ofNat rs.length))] h0 (fun v h L => v = none ∧ Fr n0 L ∧ Keep h0 h [a1, y1] ∧ ∃ y' : Nat, (y' = y1 ∨ h0.size ≤ y') ∧ o_AL Z h a1 y' (rs ++ [r1])) := by
 refine yK (plainFor_of_name pd42) ?_
 intro p e s m below meth c T0 X0 hx hby hml hZ hown hnm hret hlk e0
 have hM := @qK _ _ hml
 have W := qC hw
 have Q := @yR p c _ _ _ hx hby d56
 have N0 := Fr.nil n0
 have zO := yM O0
 have la1 : a1 < h0.size := E1.lt
 refine yP 0 rfl rfl ?_
 refine yG m 0 #[rv a1, rv r1, rv ea, iv (ofNat rs.length)] [] ?_
 rcases r1_ with ⟨hrs, rfl, DE_⟩ | ⟨rfl, hne_, kE, vs, VE, EE, OE, hvl, hvt⟩
 · have zo := DE_
   obtain ⟨SD_, kD, AD_⟩ := zo
   have KZ : Keep Z.heap h0 [] := (Keep.refl _ _).ext O0.2
   have VD := AD_.keep KZ nin0
   have F2z : Fld Z h0 a1 sN7 "size" "I" (.int 0) := by have q := F2; rw [hrs] at q; exact q
   refine yA (fun _ z_ => yE X0 (Q 0) rfl (yC X0 (Q 1) rfl rfl z_)) ?_
   have zo := VD
   obtain ⟨c101, Ar101, q101, S101, M101, H101, U101⟩ := zo
   refine yA (X0.arraylength hx (by rw [e0]; exact Ar101.1) (State.isArrayOf_alike hZ.alike Ar101.2.1) (g := (mkF m 2 #[rv a1, rv r1, rv ea, iv (ofNat rs.length)] [(.ref ea), (.int (ofNat rs.length))])) rfl rfl (Q 2).2) ?_
   rw [len_of S101 M101]
   refine yA (fun _ z_ => qH X0 (Q 3) rfl (teq (by rw [hrs]; rfl)).2 (yC X0 (Q 4) rfl rfl z_)) ?_
   refine yL (o_callP X0 hx hZ (y := (⟨sN7, "grow", sN19⟩ : MethodName)) hown (W 328) (W 329) (W 331) (W 330) (W 332) (by decide) (qY (W := 0) (gr0 hw a1 ea mc O0 DE_ (by omega) E1 F1 F2z F3) hZ (W 332) (W 92) (by decide) (by decide)) e0 E1 (by decide) (by decide) rfl (hM rfl) (argsL := []) (rest := []) (lenOf pd44 rfl) rfl rfl (qE rfl rfl) (Q 5).2) ?_
   rintro T102 _ _ h102 X102 e102 ⟨N102q, K102, b102, kb102, rfl, zb102, E102, Fa102, Fb102, Fc102, V102, Q102, Ov102⟩
   have zK102 := K102.1
   have N102 := Fr.app N0 N102q
   have lb102 := o_l V102.lt
   refine yA (fun _ z_ => XS.astoreN X102.here hx rfl (Q 6).2 rfl rfl rfl (yC X102 (Q 7) rfl rfl (yE X102 (Q 8) rfl (yC X102 (Q 9) rfl rfl z_)))) ?_
   have hrl : rs.length = 0 := by rw [hrs]; rfl
   have f104 := (ER.keep K102)
   have zo := V102
   obtain ⟨c103, Ar103, q103, S103, M103, H103, U103⟩ := zo
   refine qL (stR X102 hx hZ e102 Ar103 (j := (ofNat rs.length)) (inb_of S103 ⟨uK (by omega), (qP (by omega) (by omega)).mpr (by omega)⟩) rfl (Sto.ofV Ar103 q103 Ov102 (Ins.of_exa f104 (W 343))) rfl rfl (Q 10).2) ?_
   intro T103 h103 X103 e103 W103
   have V103 := Arv.set Ar103 q103 S103 M103 H103 U103 (v := .ref r1) rfl W103 rs.length (qU (by omega)) (by rw [hrl]; decide)
   have K103 := Keep.of_wr W103
   have N103 := Fr.snoc X103 N102 (by omega : n0 ≤ b102)
   have zK103 := K103.1
   refine yA (fun _ z_ => yC X103 (Q 11) rfl rfl (yE X103 (Q 12) rfl (yH X103 (Q 13) (XS.iadd X103.here hx rfl (Q 14).2 rfl z_)))) ?_
   refine yG m 19 #[rv a1, rv r1, rv b102, iv (ofNat rs.length)] [(.int ((ofNat rs.length) + (1 : Int32))), (.ref a1)] ?_
   rw [show ((ofNat rs.length) + (1 : Int32)) = (ofNat (rs ++ [r1]).length) from (o_cntN (by omega))]
   have f105 := (Fb102.keep K103 (yB (by omega) nin0))
   have f106 := (E102.keep K103)
   refine qL (putF X103 hx hZ hown (host := "") (Or.inl (W 161)) Via.refl e103 f105 f106 (Or.inl (W 162)) (W 91) (ty := .int) (by decide) rfl rfl rfl rfl (Q 15).2) ?_
   intro T107 h107 X107 e107 W107
   have F107 := f105.same W107
   have K107 := Keep.of_wr W107
   have N107 := Fr.snoc X107 N103 (by omega : n0 ≤ a1)
   have zK107 := K107.1
   have KK108 := yF (yF (Keep.refl h102 [b102, a1]) K103) K107
   have f109 := ((Fa102.keep K103 (yB (by omega) nin0)).other W107 (yS (Or.inl (W 110)) (Or.inl (W 162)) (by decide)))
   have f110 := ((Fc102.keep K103 (yB (by omega) nin0)).other W107 (yS (Or.inl (W 113)) (Or.inl (W 162)) (by decide)))
   have KK111 := yF (yN (yF (Keep.refl h0 [a1]) K102) K103) K107
   have f112 := (f106.keep K107)
   have f113 := (V103.keep K107 (yB (by omega) nin0))
   have f114 := (Q102.keep KK108)
   exact uG X107 hlk e107 hret (Q 16) (by decide) ⟨rfl, N107, (o_keepW KK111 (by simp)), b102, Or.inr (by omega), f112, b102, _, f109, F107, f110, Or.inr ⟨rfl, by omega, _, _, f113, f114, Ov102, (by rw [List.length_set]; rfl), (o_tkR (by rw [hrs]; rfl) (by rw [hrl]; decide))⟩⟩
 · have le_ := o_l VE.lt
   refine yA (fun _ z_ => yE X0 (Q 0) rfl (yC X0 (Q 1) rfl rfl z_)) ?_
   have zo := VE
   obtain ⟨c115, Ar115, q115, S115, M115, H115, U115⟩ := zo
   refine yA (X0.arraylength hx (by rw [e0]; exact Ar115.1) (State.isArrayOf_alike hZ.alike Ar115.2.1) (g := (mkF m 2 #[rv a1, rv r1, rv ea, iv (ofNat rs.length)] [(.ref ea), (.int (ofNat rs.length))])) rfl rfl (Q 2).2) ?_
   rw [len_of S115 M115]
   refine yA (fun _ z_ => qG X0 3 11 rfl (Q 3) rfl (feq (fun q => absurd ((o_nin (by omega) (by omega)).mp q) (by omega))).2 (by decide) (yC X0 (Q 7) rfl rfl (yE X0 (Q 8) rfl (yC X0 (Q 9) rfl rfl z_)))) ?_
   have hrl : rs.length < 10 := hl
   have zo := VE
   obtain ⟨c116, Ar116, q116, S116, M116, H116, U116⟩ := zo
   refine qL (stR X0 hx hZ e0 Ar116 (j := (ofNat rs.length)) (inb_of S116 ⟨uK (by omega), (qP (by omega) (by omega)).mpr (by omega)⟩) rfl (Sto.ofV Ar116 q116 OE (Ins.of_exa ER (W 343))) rfl rfl (Q 10).2) ?_
   intro T116 h116 X116 e116 W116
   have V116 := Arv.set Ar116 q116 S116 M116 H116 U116 (v := .ref r1) rfl W116 rs.length (qU (by omega)) (by omega)
   have K116 := Keep.of_wr W116
   have N116 := Fr.snoc X116 N0 (by omega : n0 ≤ ea)
   have zK116 := K116.1
   refine yA (fun _ z_ => yC X116 (Q 11) rfl rfl (yE X116 (Q 12) rfl (yH X116 (Q 13) (XS.iadd X116.here hx rfl (Q 14).2 rfl z_)))) ?_
   refine yG m 19 #[rv a1, rv r1, rv ea, iv (ofNat rs.length)] [(.int ((ofNat rs.length) + (1 : Int32))), (.ref a1)] ?_
   rw [show ((ofNat rs.length) + (1 : Int32)) = (ofNat (rs ++ [r1]).length) from (o_cntN (by omega))]
   have f117 := (F2.keep K116 (yB (by omega) nin0))
   have f118 := (E1.keep K116)
   refine qL (putF X116 hx hZ hown (host := "") (Or.inl (W 161)) Via.refl e116 f117 f118 (Or.inl (W 162)) (W 91) (ty := .int) (by decide) rfl rfl rfl rfl (Q 15).2) ?_
   intro T119 h119 X119 e119 W119
   have F119 := f117.same W119
   have K119 := Keep.of_wr W119
   have N119 := Fr.snoc X119 N116 (by omega : n0 ≤ a1)
   have zK119 := K119.1
   have KK120 := yF (yF (Keep.refl h0 [ea, a1]) K116) K119
   have f121 := ((F1.keep K116 (yB (by omega) nin0)).other W119 (yS (Or.inl (W 110)) (Or.inl (W 162)) (by decide)))
   have f122 := ((F3.keep K116 (yB (by omega) nin0)).other W119 (yS (Or.inl (W 113)) (Or.inl (W 162)) (by decide)))
   have f123 := (f118.keep K119)
   have f124 := (V116.keep K119 (yB (by omega) nin0))
   have f125 := (EE.keep KK120)
   exact uG X119 hlk e119 hret (Q 16) (by decide) ⟨rfl, N119, (o_keepW KK120 (by simp)), ea, Or.inl rfl, f123, ea, _, f121, F119, f122, Or.inr ⟨rfl, hne_, _, _, f124, f125, OE, (by rw [List.length_set]; exact hvl), (o_tkR hvt (by omega))⟩⟩
theorem d55 : yX jdk_38_method_25_code [(0, .aload_n 0, 1), (1, .dup, 1), (2, .getfield 63, 3), (5, .iconst 1, 1), (6, .iadd, 1), (7, .putfield 63, 3), (10, .aload_n 0, 1), (11, .aload_n 1, 1), (12, .aload_n 0, 1), (13, .getfield 9, 3), (16, .aload_n 0, 1), (17, .getfield 48, 3), (20, .invokevirtual 131, 3), (23, .iconst 1, 1), (24, .ireturn, 1)] := by decide +kernel
theorem pd45 : parseMethodDescriptor "(Ljava/lang/Object;[Ljava/lang/Object;I)V" = some ⟨[(.object sN6), (.array (.object sN6)), .int], none⟩ := by decide +kernel
abbrev adW0R : Room := { frames := 4, cells := 1, slots := 10, locals := 56 }
theorem adW0 (hw : yQ a0 Z) (a1 y1 r1 D : Nat) (rs : List Nat) (O0 : Old Z n0 h0) (DE : o_DE Z D) (g1 : n0 ≤ a1) (g2 : n0 ≤ y1) (hl : rs.length < 10) (ER : Exa Z h0 r1 sN2) (S1 : o_AL Z h0 a1 y1 rs) :
 yZ l Z mN22 jdk_38_method_25_code 2 (some .boolean) [] adW0R #[(.ref a1), (.ref r1)] h0 (fun v h L => v = some (.int 1) ∧ Fr n0 L ∧ Keep h0 h [a1, y1] ∧ ∃ y' : Nat, (y' = y1 ∨ h0.size ≤ y') ∧ o_AL Z h a1 y' (rs ++ [r1])) := by
 refine yK (plainFor_of_name pd42) ?_
 intro p e s m below meth c T0 X0 hx hby hml hZ hown hnm hret hlk e0
 have hM := @qK _ _ hml
 have W := qC hw
 have Q := @yR p c _ _ _ hx hby d55
 have N0 := Fr.nil n0
 have zO := yM O0
 have hlt1 := S1.lt
 have zo := S1
 obtain ⟨E1, ea, mc, F1, F2, F3, r1_⟩ := zo
 refine yP 0 rfl rfl ?_
 refine yG m 0 #[rv a1, rv r1] [] ?_
 refine yA (fun _ z_ => yC X0 (Q 0) rfl rfl (qJ X0 (Q 1) rfl rfl z_)) ?_
 refine yO (getF X0 hx hZ hown (host := "") (Or.inl (W 321)) (Via.of (W 322)) e0 F1 rfl rfl (Q 2).2) ?_
 intro T101 X101 e101
 refine yA (fun _ z_ => yH X101 (Q 3) (XS.iadd X101.here hx rfl (Q 4).2 rfl z_)) ?_
 refine qL (putF X101 hx hZ hown (host := "") (Or.inl (W 321)) (Via.of (W 322)) e101 F1 E1 (Or.inl (W 110)) (W 91) (ty := .int) (by decide) rfl rfl rfl rfl (Q 5).2) ?_
 intro T102 h102 X102 e102 W102
 have F102 := F1.same W102
 have K102 := Keep.of_wr W102
 have N102 := Fr.snoc X102 N0 (by omega : n0 ≤ a1)
 have zK102 := K102.1
 refine yA (fun _ z_ => yC X102 (Q 6) rfl rfl (yC X102 (Q 7) rfl rfl (yC X102 (Q 8) rfl rfl z_))) ?_
 have f103 := (F3.other W102 (yS (Or.inl (W 113)) (Or.inl (W 110)) (by decide)))
 refine yO (yV X102 hZ hown (W 112) e102 f103 rfl rfl (Q 9)) ?_
 intro T104 X104 e104
 refine yA (fun _ z_ => yC X104 (Q 10) rfl rfl z_) ?_
 have f105 := (F2.other W102 (yS (Or.inl (W 162)) (Or.inl (W 110)) (by decide)))
 refine yO (yV X104 hZ hown (W 161) e104 f105 rfl rfl (Q 11)) ?_
 intro T106 X106 e106
 have R1_ := o_r1k r1_ K102
 have O107 : Old Z n0 h102 := O0.keep K102 (allS (by omega) all0)
 have f108 := (ER.keep K102)
 have f109 := (E1.keep K102)
 refine yL (o_callP X106 hx hZ (y := (⟨sN7, "add", "(Ljava/lang/Object;[Ljava/lang/Object;I)V"⟩ : MethodName)) hown (W 323) (W 324) (W 326) (W 325) (W 327) (by decide) (qY (W := 0) (adP0 hw a1 y1 r1 D rs _ ea O107 DE (by omega) (by omega) hl f108 f109 F102 f105 f103 R1_) hZ (W 327) (W 92) (by decide) (by decide)) e106 f109 (by decide) (by decide) rfl (hM rfl) (argsL := [(.ref r1), (.ref ea), (.int (ofNat rs.length))]) (rest := []) (lenOf pd45 rfl) rfl rfl (qE rfl rfl) (Q 12).2) ?_
 rintro T110 _ _ h110 X110 e110 ⟨rfl, N110q, K110, y110, zy110, S110⟩
 have zK110 := K110.1
 have N110 := Fr.app N102 N110q
 have E110 := S110.1
 refine yA (fun _ z_ => yH X110 (Q 13) z_) ?_
 have KK111 := uP (yF (Keep.refl h0 [a1, y1]) K102) K110
 exact yW X110 hlk e110 hret (by decide) uN (Q 14) (by decide) ⟨rfl, N110, KK111, _, by omega, S110⟩
theorem d28 : yX jdk_38_method_9_code [(0, .aload_n 0, 1), (1, .getfield 48, 3), (4, .ifCond .ne 7, 3), (7, .iconst 1, 1), (8, .goto 4, 3), (12, .ireturn, 1), (11, .iconst 0, 1)] := by decide +kernel
abbrev ie1R : Room := { frames := 0, cells := 0, slots := 0, locals := 0 }
theorem ie1 (hw : yQ a0 Z) (a1 n : Nat) (O0 : Old Z n0 h0) (hn : n = 0) (hk : n < 10) (F1 : Fld Z h0 a1 sN7 "size" "I" (.int (ofNat n))) :
 yZ l Z mN32 jdk_38_method_9_code 1 (some .boolean) [] ie1R #[(.ref a1)] h0 (fun v h L => v = some (.int 1) ∧ Fr n0 L ∧ h = h0) := by
 refine yK (plainFor_of_name pd42) ?_
 intro p e s m below meth c T0 X0 hx hby hml hZ hown hnm hret hlk e0
 have W := qC hw
 have Q := @yR p c _ _ _ hx hby d28
 have N0 := Fr.nil n0
 have zO := yM O0
 refine yP 0 rfl rfl ?_
 refine yG m 0 #[rv a1] [] ?_
 refine yA (fun _ z_ => yC X0 (Q 0) rfl rfl z_) ?_
 refine yG m 1 #[rv a1] [(.ref a1)] ?_
 refine yO (yV X0 hZ hown (W 161) e0 F1 rfl rfl (Q 1)) ?_
 intro T101 X101 e101
 refine yA (fun _ z_ => qA X101 (Q 2) rfl ((if0 _ _).trans (teq (by rw [hn]; rfl)).2) (yH X101 (Q 3) (yT X101 8 12 rfl (Q 4) (by decide) z_))) ?_
 exact yW X101 hlk e101 hret (by decide) uN (Q 5) (by decide) ⟨rfl, N0, rfl⟩
abbrev ie0R : Room := { frames := 0, cells := 0, slots := 0, locals := 0 }
theorem ie0 (hw : yQ a0 Z) (a1 n : Nat) (O0 : Old Z n0 h0) (hn : ¬ n = 0) (hk : n < 10) (F1 : Fld Z h0 a1 sN7 "size" "I" (.int (ofNat n))) :
 yZ l Z mN32 jdk_38_method_9_code 1 (some .boolean) [] ie0R #[(.ref a1)] h0 (fun v h L => v = some (.int 0) ∧ Fr n0 L ∧ h = h0) := by
 refine yK (plainFor_of_name pd42) ?_
 intro p e s m below meth c T0 X0 hx hby hml hZ hown hnm hret hlk e0
 have W := qC hw
 have Q := @yR p c _ _ _ hx hby d28
 have N0 := Fr.nil n0
 have zO := yM O0
 refine yP 0 rfl rfl ?_
 refine yG m 0 #[rv a1] [] ?_
 refine yA (fun _ z_ => yC X0 (Q 0) rfl rfl z_) ?_
 refine yO (yV X0 hZ hown (W 161) e0 F1 rfl rfl (Q 1)) ?_
 intro T101 X101 e101
 refine yA (fun _ z_ => qF X101 4 11 rfl (Q 2) rfl ((if0 _ _).trans (feq (fun q => hn ((o_nin (b := 0) (by omega) (by omega)).mp q))).2) (by decide) (yH X101 (Q 6) z_)) ?_
 exact yW X101 hlk e101 hret (by decide) uN (Q 5) (by decide) ⟨rfl, N0, rfl⟩
theorem d62 : yX jdk_65_method_120_code [(0, .aload_n 2, 1), (1, .ldc 110, 2), (3, .if_acmp .ne 10, 3), (6, .iload_n 1, 1), (7, .anewarray 2, 3), (10, .goto 14, 3), (24, .astore_n 3, 1), (25, .aload_n 0, 1), (26, .iconst 0, 1), (27, .aload_n 3, 1), (28, .iconst 0, 1), (29, .aload_n 0, 1), (30, .arraylength, 1), (31, .iload_n 1, 1), (32, .invokestatic 304, 3), (35, .invokestatic 150, 3), (38, .aload_n 3, 1), (39, .areturn, 1)] := by decide +kernel
abbrev co3R : Room := { frames := 1, cells := 1, slots := 10, locals := 40 }
theorem co3 (hw : yQ a0 Z) (a1 mr : Nat) (kE : ClassId) (vs : List Value) (rs : List Nat) (O0 : Old Z n0 h0) (MM : o_MM Z sN8 mr) (hl : rs.length < 10) (hvl : vs.length = 10) (hvt : vs.take rs.length = rs.map Value.ref) (ER : ∀ r ∈ rs, Exa Z h0 r sN2) (E1 : Exa Z h0 a1 sN8) (V1 : Arv Z h0 a1 kE uW (ofNat 10) vs .null) :
 yZ l Z (⟨sN21, "copyOf", "([Ljava/lang/Object;ILjava/lang/Class;)[Ljava/lang/Object;"⟩ : MethodName) jdk_65_method_120_code 4 (some (.array (.object sN6))) [] co3R #[(.ref a1), (.int (ofNat rs.length)), (.ref mr)] h0 (fun v h L => Fr n0 L ∧ ∃ (b : Nat) (kb : ClassId), v = some (.ref b) ∧ Keep h0 h [] ∧ h0.size ≤ b ∧ b < h.size ∧ Arv Z h b kb uW (ofNat rs.length) (rs.map Value.ref) .null) := by
 refine yK (plainFor_of_name pd23) ?_
 intro p e s m below meth c T0 X0 hx hby hml hZ hown hnm hret hlk e0
 have hM := @qK _ _ hml
 have W := qC hw
 have Q := @yR p c _ _ _ hx hby d62
 have N0 := Fr.nil n0
 have zO := yM O0
 have la1 : a1 < h0.size := E1.lt
 refine yP 1 rfl rfl ?_
 refine yG m 0 #[rv a1, iv (ofNat rs.length), rv mr, .unset] [] ?_
 refine yA (fun _ z_ => yC X0 (Q 0) rfl rfl z_) ?_
 refine yO (o_ldcM X0 hx hZ hown (W 364) e0 MM rfl (Q 1).2) ?_
 intro T101 X101 e101
 refine yA (fun _ z_ => Jvm.RoadKit.acmp (g := (mkF m 3 #[rv a1, iv (ofNat rs.length), rv mr, .unset] [(.ref mr), (.ref mr)])) X101 hx rfl rfl rfl (pc0 := 3) (pc' := 6) (same := true) rfl (Q 2).2 rfl (decide_eq_true rfl) (by decide) (by decide) (yE X101 (Q 3) rfl z_)) ?_
 have zo := newRE X101 hx hZ hown (W 365) (W 342) e101 (g := (mkF m 7 #[rv a1, iv (ofNat rs.length), rv mr, .unset] [(.int (ofNat rs.length))])) rfl (Q 4).2 rfl (uK (by omega)) (cap := 10) (by rw [qU (by omega)]; omega) (by decide) (by decide) (by decide) (ad := sN8) (by decide +kernel)
 obtain ⟨T102, h102, k102, X102, e102, E102, A102, Q102, Ov102, st102⟩ := zo
 have zo : ∃ z, z = h0.size := ⟨_, rfl⟩
 obtain ⟨b102, g102⟩ := zo
 rw [← g102] at A102 Q102 st102
 have K102 : Keep h0 h102 [] := (Keep.refl _ _).ext E102
 have l102 : b102 < h102.size := A102.lt
 refine yA st102 ?_
 have zK102 := K102.1
 have V102 : Arv Z h102 b102 k102 uW (ofNat rs.length) (List.replicate rs.length .null) .null := (Arv.new A102 (uK (by omega))).pad (pad_rep [] .null rs.length)
 refine yA (fun _ z_ => yT X102 10 24 rfl (Q 5) (by decide) (XS.astoreN X102.here hx rfl (Q 6).2 rfl rfl rfl (yC X102 (Q 7) rfl rfl (yH X102 (Q 8) (yC X102 (Q 9) rfl rfl (yH X102 (Q 10) z_)))))) ?_
 refine yA (fun _ z_ => yC X102 (Q 11) rfl rfl z_) ?_
 have f103 := (V1.keep K102 nin0)
 have zo := f103
 obtain ⟨c104, Ar104, q104, S104, M104, H104, U104⟩ := zo
 refine yA (X102.arraylength hx (by rw [e102]; exact Ar104.1) (State.isArrayOf_alike hZ.alike Ar104.2.1) (g := (mkF m 30 #[rv a1, iv (ofNat rs.length), rv mr, rv b102] [(.ref a1), (.int (0 : Int32)), (.ref b102), (.int (0 : Int32)), (.ref a1)])) rfl rfl (Q 12).2) ?_
 rw [len_of S104 M104]
 refine yA (fun _ z_ => yE X102 (Q 13) rfl z_) ?_
 refine yG m 32 #[rv a1, iv (ofNat rs.length), rv mr, rv b102] [(.int (ofNat rs.length)), (.int (ofNat 10)), (.int (0 : Int32)), (.ref b102), (.int (0 : Int32)), (.ref a1)] ?_
 have O105 : Old Z n0 h102 := O0.keep K102 all0
 refine yL (qD X102 hZ (y := mN45) hown (W 311) (W 312) (W 313) (W 314) 4 (mnW hw (ofNat 10) (ofNat rs.length) O105) e102 (by decide) rfl (hM rfl) [(.int (ofNat 10)), (.int (ofNat rs.length))] (rest := [(.int (0 : Int32)), (.ref b102), (.int (0 : Int32)), (.ref a1)]) pd24 rfl rfl rfl rfl rfl (Q 14)) ?_
 rintro T106 _ _ h106 X106 e106 ⟨rfl, N106q, hq106⟩
 replace e106 := e106.trans hq106
 have N106 := Fr.app N0 N106q
 refine yG m 35 #[rv a1, iv (ofNat rs.length), rv mr, rv b102] [(.int (if (ofNat rs.length) < (ofNat 10) then (ofNat rs.length) else (ofNat 10))), (.int (0 : Int32)), (.ref b102), (.int (0 : Int32)), (.ref a1)] ?_
 rw [show (if (ofNat rs.length) < (ofNat 10) then (ofNat rs.length) else (ofNat 10)) = (ofNat rs.length) from (if_pos ((qP (by omega) (by omega)).mpr hl))]
 have zo := o_cpR X106 hx hZ hown (W 315) (W 274) (W 272) (W 273) e106 f103 V102 Ov102 hvl hvt hl (fun r hr => Ins.of_exa ((ER r hr).keep K102) (W 343)) N106 (by omega : n0 ≤ b102) (g := (mkF m 35 #[rv a1, iv (ofNat rs.length), rv mr, rv b102] [(.int (ofNat rs.length)), (.int (0 : Int32)), (.ref b102), (.int (0 : Int32)), (.ref a1)])) rfl (hM rfl) rfl (Q 15).2 (by decide) (W := 0) (qE rfl rfl) (by decide)
 obtain ⟨T107, h107, L107, X107, e107, N107, K107, V107, st107⟩ := zo
 refine yA st107 ?_
 have zK107 := K107.1
 refine yA (fun _ z_ => yC X107 (Q 16) rfl rfl z_) ?_
 have KK108 := yN (yI (Keep.refl h0 []) K102) K107
 exact yW X107 hlk e107 hret rfl (uA rfl rfl) (Q 17) (by decide) ⟨N107, b102, _, rfl, KK108, by omega, V107.lt, V107⟩
theorem d61 : yX jdk_65_method_119_code [(0, .aload_n 0, 1), (1, .iload_n 1, 1), (2, .aload_n 0, 1), (3, .invokevirtual 86, 3), (6, .invokestatic 300, 3), (9, .areturn, 1)] := by decide +kernel
theorem pd46 : parseMethodDescriptor "([Ljava/lang/Object;ILjava/lang/Class;)[Ljava/lang/Object;" = some ⟨[(.array (.object sN6)), .int, (.object "java/lang/Class")], some (.array (.object sN6))⟩ := by decide +kernel
abbrev co2R : Room := { frames := 2, cells := 1, slots := 10, locals := 55 }
theorem co2 (hw : yQ a0 Z) (a1 mr : Nat) (kE : ClassId) (vs : List Value) (rs : List Nat) (O0 : Old Z n0 h0) (MM : o_MM Z sN8 mr) (hl : rs.length < 10) (hvl : vs.length = 10) (hvt : vs.take rs.length = rs.map Value.ref) (ER : ∀ r ∈ rs, Exa Z h0 r sN2) (E1 : Exa Z h0 a1 sN8) (V1 : Arv Z h0 a1 kE uW (ofNat 10) vs .null) :
 yZ l Z (⟨sN21, "copyOf", "([Ljava/lang/Object;I)[Ljava/lang/Object;"⟩ : MethodName) jdk_65_method_119_code 2 (some (.array (.object sN6))) [] co2R #[(.ref a1), (.int (ofNat rs.length))] h0 (fun v h L => Fr n0 L ∧ ∃ (b : Nat) (kb : ClassId), v = some (.ref b) ∧ Keep h0 h [] ∧ h0.size ≤ b ∧ b < h.size ∧ Arv Z h b kb uW (ofNat rs.length) (rs.map Value.ref) .null) := by
 refine yK (plainFor_of_name pd23) ?_
 intro p e s m below meth c T0 X0 hx hby hml hZ hown hnm hret hlk e0
 have hM := @qK _ _ hml
 have W := qC hw
 have Q := @yR p c _ _ _ hx hby d61
 have N0 := Fr.nil n0
 have zO := yM O0
 have la1 : a1 < h0.size := E1.lt
 refine yP 0 rfl rfl ?_
 refine yG m 0 #[rv a1, iv (ofNat rs.length)] [] ?_
 refine yA (fun _ z_ => yC X0 (Q 0) rfl rfl (yE X0 (Q 1) rfl (yC X0 (Q 2) rfl rfl z_))) ?_
 refine yO (o_gcls X0 hx hZ hown (W 355) (W 356) (W 150) (W 358) (W 357) (W 359) e0 E1 MM rfl (hM rfl) rfl (Q 3).2 (by decide) (W := 2) (qE rfl rfl) (by decide)) ?_
 intro T101 X101 e101
 refine yL (qD X101 hZ (y := (⟨sN21, "copyOf", "([Ljava/lang/Object;ILjava/lang/Class;)[Ljava/lang/Object;"⟩ : MethodName)) hown (W 361) (W 362) (W 303) (W 363) 0 (co3 hw a1 mr _ _ rs O0 MM hl hvl hvt ER E1 V1) e101 (by decide) rfl (hM rfl) [(.ref a1), (.int (ofNat rs.length)), (.ref mr)] (rest := []) pd46 rfl rfl rfl rfl rfl (Q 4)) ?_
 rintro T102 _ _ h102 X102 e102 ⟨N102q, b102, k102, rfl, K102, zb102, zc102, V102⟩
 have zK102 := K102.1
 have N102 := Fr.app N0 N102q
 exact yW X102 hlk e102 hret rfl (uA rfl rfl) (Q 5) (by decide) ⟨N102, b102, _, rfl, K102, by omega, V102.lt, V102⟩
theorem d60 : yX jdk_38_method_16_code [(0, .aload_n 0, 1), (1, .getfield 9, 3), (4, .aload_n 0, 1), (5, .getfield 48, 3), (8, .invokestatic 66, 3), (11, .areturn, 1)] := by decide +kernel
theorem pd47 : parseMethodDescriptor "([Ljava/lang/Object;I)[Ljava/lang/Object;" = some ⟨[(.array (.object sN6)), .int], some (.array (.object sN6))⟩ := by decide +kernel
abbrev taWR : Room := { frames := 3, cells := 1, slots := 10, locals := 68 }
theorem taW (hw : yQ a0 Z) (a1 y1 mr : Nat) (rs : List Nat) (O0 : Old Z n0 h0) (MM : o_MM Z sN8 mr) (hl : rs.length < 10) (hne : rs ≠ []) (ER : ∀ r ∈ rs, Exa Z h0 r sN2) (S1 : o_AL Z h0 a1 y1 rs) :
 yZ l Z (⟨sN7, "toArray", sN19⟩ : MethodName) jdk_38_method_16_code 1 (some (.array (.object sN6))) [] taWR #[(.ref a1)] h0 (fun v h L => Fr n0 L ∧ ∃ (b : Nat) (kb : ClassId), v = some (.ref b) ∧ Keep h0 h [] ∧ h0.size ≤ b ∧ b < h.size ∧ Arv Z h b kb uW (ofNat rs.length) (rs.map Value.ref) .null) := by
 refine yK (plainFor_of_name pd42) ?_
 intro p e s m below meth c T0 X0 hx hby hml hZ hown hnm hret hlk e0
 have hM := @qK _ _ hml
 have W := qC hw
 have Q := @yR p c _ _ _ hx hby d60
 have N0 := Fr.nil n0
 have zO := yM O0
 have zo := S1.grown hne
 obtain ⟨ea, kE, vs, F2, F3, V1, EE, hvl, hvt⟩ := zo
 have la1 := S1.lt
 have le1 := o_l V1.lt
 refine yP 0 rfl rfl ?_
 refine yG m 0 #[rv a1] [] ?_
 refine yA (fun _ z_ => yC X0 (Q 0) rfl rfl z_) ?_
 refine yO (yV X0 hZ hown (W 112) e0 F3 rfl rfl (Q 1)) ?_
 intro T101 X101 e101
 refine yA (fun _ z_ => yC X101 (Q 2) rfl rfl z_) ?_
 refine yO (yV X101 hZ hown (W 161) e101 F2 rfl rfl (Q 3)) ?_
 intro T102 X102 e102
 refine yL (qD X102 hZ (y := (⟨sN21, "copyOf", "([Ljava/lang/Object;I)[Ljava/lang/Object;"⟩ : MethodName)) hown (W 352) (W 353) (W 303) (W 354) 0 (co2 hw ea mr _ _ rs O0 MM hl hvl hvt ER EE V1) e102 (by decide) rfl (hM rfl) [(.ref ea), (.int (ofNat rs.length))] (rest := []) pd47 rfl rfl rfl rfl rfl (Q 4)) ?_
 rintro T103 _ _ h103 X103 e103 ⟨N103q, b103, k103, rfl, K103, zb103, zc103, V103⟩
 have zK103 := K103.1
 have N103 := Fr.app N0 N103q
 exact yW X103 hlk e103 hret rfl (uA rfl rfl) (Q 5) (by decide) ⟨N103, b103, _, rfl, K103, by omega, V103.lt, V103⟩
theorem d67 : yX jdk_31_method_10_code [(0, .aload_n 0, 1), (1, .ifnonnull 11, 3), (12, .aload_n 0, 1), (13, .areturn, 1)] := by decide +kernel
theorem pd48 : plainName "java/util/Objects" = true := by first | (simp [plainName, overriddenIn]; done) | decide +kernel
abbrev rnWR : Room := { frames := 0, cells := 0, slots := 0, locals := 0 }
theorem rnW (hw : yQ a0 Z) (a1 : Nat) (O0 : Old Z n0 h0)  :
 yZ l Z mN14 jdk_31_method_10_code 1 (some (.object sN6)) [] rnWR #[(.ref a1)] h0 (fun v h L => v = some (.ref a1) ∧ Fr n0 L ∧ h = h0) := by
 refine yK (plainFor_of_name pd48) ?_
 intro p e s m below meth c T0 X0 hx hby hml hZ hown hnm hret hlk e0
 have W := qC hw
 have Q := @yR p c _ _ _ hx hby d67
 have N0 := Fr.nil n0
 have zO := yM O0
 refine yP 0 rfl rfl ?_
 refine yG m 0 #[rv a1] [] ?_
 refine yA (fun _ z_ => yC X0 (Q 0) rfl rfl (XS.ifnonnullYes X0.here hx rfl (pc0 := 1) (pc' := 12) rfl (Q 1).2 rfl (by decide) (by decide) (yC X0 (Q 2) rfl rfl z_))) ?_
 exact yW X0 hlk e0 hret rfl (uA rfl rfl) (Q 3) (by decide) ⟨rfl, N0, rfl⟩
theorem d66 : yX jdk_47_method_1_code [(0, .aload_n 0, 1), (1, .invokespecial 1, 3), (4, .return_, 1)] := by decide +kernel
theorem pd49 : plainName "java/util/ImmutableCollections$AbstractImmutableCollection" = true := by first | (simp [plainName, overriddenIn]; done) | decide +kernel
abbrev aicIR : Room := { frames := 2, cells := 0, slots := 0, locals := 24 }
theorem aicI (hw : yQ a0 Z) (a1 : Nat) (O0 : Old Z n0 h0)  :
 yZ l Z (⟨"java/util/ImmutableCollections$AbstractImmutableCollection", "<init>", "()V"⟩ : MethodName) jdk_47_method_1_code 1 none [] aicIR #[(.ref a1)] h0 (fun v h L => v = none ∧ Fr n0 L ∧ h = h0) := by
 refine yK (plainFor_of_name pd49) ?_
 intro p e s m below meth c T0 X0 hx hby hml hZ hown hnm hret hlk e0
 have hM := @qK _ _ hml
 have W := qC hw
 have Q := @yR p c _ _ _ hx hby d66
 have N0 := Fr.nil n0
 have zO := yM O0
 refine yP 0 rfl rfl ?_
 refine yG m 0 #[rv a1] [] ?_
 refine yA (fun _ z_ => yC X0 (Q 0) rfl rfl z_) ?_
 refine yG m 1 #[rv a1] [(.ref a1)] ?_
 refine yL (o_cI X0 hZ (y := mN52) rfl hown (W 388) (W 103) (W 107) (W 106) 0 (abcI hw a1 O0) e0 (by decide) rfl (hM rfl) (a := a1) [] (rest := []) pd33 rfl rfl rfl rfl rfl (Q 1)) ?_
 rintro T101 _ _ h101 X101 e101 ⟨rfl, N101q, hq101⟩
 replace e101 := e101.trans hq101
 have N101 := Fr.app N0 N101q
 exact uG X101 hlk e101 hret (Q 2) (by decide) ⟨rfl, N101, rfl⟩
theorem d65 : yX jdk_46_method_1_code [(0, .aload_n 0, 1), (1, .invokespecial 1, 3), (4, .return_, 1)] := by decide +kernel
theorem pd50 : plainName "java/util/ImmutableCollections$AbstractImmutableList" = true := by first | (simp [plainName, overriddenIn]; done) | decide +kernel
abbrev ailIR : Room := { frames := 3, cells := 0, slots := 0, locals := 36 }
theorem ailI (hw : yQ a0 Z) (a1 : Nat) (O0 : Old Z n0 h0)  :
 yZ l Z mN33 jdk_46_method_1_code 1 none [] ailIR #[(.ref a1)] h0 (fun v h L => v = none ∧ Fr n0 L ∧ h = h0) := by
 refine yK (plainFor_of_name pd50) ?_
 intro p e s m below meth c T0 X0 hx hby hml hZ hown hnm hret hlk e0
 have hM := @qK _ _ hml
 have W := qC hw
 have Q := @yR p c _ _ _ hx hby d65
 have N0 := Fr.nil n0
 have zO := yM O0
 refine yP 0 rfl rfl ?_
 refine yG m 0 #[rv a1] [] ?_
 refine yA (fun _ z_ => yC X0 (Q 0) rfl rfl z_) ?_
 refine yL (o_cI X0 hZ (y := (⟨"java/util/ImmutableCollections$AbstractImmutableCollection", "<init>", "()V"⟩ : MethodName)) rfl hown (W 382) (W 383) (W 387) (W 386) 0 (aicI hw a1 O0) e0 (by decide) rfl (hM rfl) (a := a1) [] (rest := []) pd33 rfl rfl rfl rfl rfl (Q 1)) ?_
 rintro T101 _ _ h101 X101 e101 ⟨rfl, N101q, hq101⟩
 replace e101 := e101.trans hq101
 have N101 := Fr.app N0 N101q
 exact uG X101 hlk e101 hret (Q 2) (by decide) ⟨rfl, N101, rfl⟩
theorem d64 : yX jdk_44_method_1_code [(0, .aload_n 0, 1), (1, .invokespecial 1, 3), (4, .aload_n 0, 1), (5, .aload_n 1, 1), (6, .invokestatic 7, 3), (9, .putfield 13, 3), (12, .aload_n 0, 1), (13, .getstatic 19, 3), (16, .putfield 24, 3), (19, .return_, 1)] := by decide +kernel
theorem pd51 : parseMethodDescriptor "(Ljava/lang/Object;)Ljava/lang/Object;" = some ⟨[(.object sN6)], some (.object sN6)⟩ := by decide +kernel
theorem pd52 : plainName sN5 = true := by first | (simp [plainName, overriddenIn]; done) | decide +kernel
abbrev l1IR : Room := { frames := 4, cells := 0, slots := 0, locals := 48 }
theorem l1I (hw : yQ a0 Z) (a1 em r0 : Nat) (u1 u2 : Value) (O0 : Old Z n0 h0) (EM : o_EM Z em) (g1 : n0 ≤ a1) (E1 : Exa Z h0 a1 sN5) (F1 : Fld Z h0 a1 sN5 "e0" sN15 u1) (F2 : Fld Z h0 a1 sN5 "e1" sN15 u2) :
 yZ l Z (⟨sN5, "<init>", "(Ljava/lang/Object;)V"⟩ : MethodName) jdk_44_method_1_code 2 none [] l1IR #[(.ref a1), (.ref r0)] h0 (fun v h L => v = none ∧ Fr n0 L ∧ Keep h0 h [a1] ∧ Exa Z h a1 sN5 ∧ Fld Z h a1 sN5 "e0" sN15 (.ref r0) ∧ Fld Z h a1 sN5 "e1" sN15 (.ref em)) := by
 refine yK (plainFor_of_name pd52) ?_
 intro p e s m below meth c T0 X0 hx hby hml hZ hown hnm hret hlk e0
 have hM := @qK _ _ hml
 have W := qC hw
 have Q := @yR p c _ _ _ hx hby d64
 have N0 := Fr.nil n0
 have zO := yM O0
 have zo := EM
 obtain ⟨SE_, lE_⟩ := zo
 refine yP 0 rfl rfl ?_
 refine yG m 0 #[rv a1, rv r0] [] ?_
 refine yA (fun _ z_ => yC X0 (Q 0) rfl rfl z_) ?_
 refine yL (o_cI X0 hZ (y := mN33) rfl hown (W 376) (W 377) (W 381) (W 380) 0 (ailI hw a1 O0) e0 (by decide) rfl (hM rfl) (a := a1) [] (rest := []) pd33 rfl rfl rfl rfl rfl (Q 1)) ?_
 rintro T101 _ _ h101 X101 e101 ⟨rfl, N101q, hq101⟩
 replace e101 := e101.trans hq101
 have N101 := Fr.app N0 N101q
 refine yA (fun _ z_ => yC X101 (Q 2) rfl rfl (yC X101 (Q 3) rfl rfl z_)) ?_
 refine yL (qD X101 hZ (y := mN14) hown (W 390) (W 391) (W 392) (W 393) 1 (rnW hw r0 O0) e101 (by decide) rfl (hM rfl) [(.ref r0)] (rest := [(.ref a1)]) pd51 rfl rfl rfl rfl rfl (Q 4)) ?_
 rintro T102 _ _ h102 X102 e102 ⟨rfl, N102q, hq102⟩
 replace e102 := e102.trans hq102
 have N102 := Fr.app N101 N102q
 refine qL (putF X102 hx hZ hown (host := "") (Or.inl (W 394)) Via.refl e102 F1 E1 (Or.inr ⟨(W 395), rfl, hnm⟩) (W 370) (ty := (.object sN6)) (by decide) rfl rfl rfl rfl (Q 5).2) ?_
 intro T103 h103 X103 e103 W103
 have F103 := F1.same W103
 have K103 := Keep.of_wr W103
 have N103 := Fr.snoc X103 N102 (by omega : n0 ≤ a1)
 have zK103 := K103.1
 refine yA (fun _ z_ => yC X103 (Q 6) rfl rfl z_) ?_
 have O105 : Old Z n0 h103 := O0.keep K103 (allS (by omega) all0)
 refine yO (getS2 X103 hx hZ hown (Or.inr (W 396)) Via.refl e103 (SE_.ext O105.2) rfl (Q 7).2) ?_
 intro T104 X104 e104
 have f106 := (F2.other W103 (yS (Or.inr (W 398)) (Or.inr (W 395)) (by decide)))
 have f107 := (E1.keep K103)
 refine qL (putF X104 hx hZ hown (host := "") (Or.inl (W 397)) Via.refl e104 f106 f107 (Or.inr ⟨(W 398), rfl, hnm⟩) (W 370) (ty := (.object sN6)) (by decide) rfl rfl rfl rfl (Q 8).2) ?_
 intro T108 h108 X108 e108 W108
 have F108 := f106.same W108
 have K108 := Keep.of_wr W108
 have N108 := Fr.snoc X108 N103 (by omega : n0 ≤ a1)
 have zK108 := K108.1
 have KK109 := yF (yF (Keep.refl h0 [a1]) K103) K108
 have f110 := (f107.keep K108)
 have f111 := (F103.other W108 (yS (Or.inr (W 395)) (Or.inr (W 398)) (by decide)))
 exact uG X108 hlk e108 hret (Q 9) (by decide) ⟨rfl, N108, KK109, f110, f111, F108⟩
theorem d79 : yX jdk_44_method_2_code [(0, .aload_n 0, 1), (1, .invokespecial 1, 3), (4, .aload_n 0, 1), (5, .aload_n 1, 1), (6, .invokestatic 7, 3), (9, .putfield 13, 3), (12, .aload_n 0, 1), (13, .aload_n 2, 1), (14, .invokestatic 7, 3), (17, .putfield 24, 3), (20, .return_, 1)] := by decide +kernel
abbrev l2IR : Room := { frames := 4, cells := 0, slots := 0, locals := 48 }
theorem l2I (hw : yQ a0 Z) (a1 em r0 r1 : Nat) (u1 u2 : Value) (O0 : Old Z n0 h0) (EM : o_EM Z em) (g1 : n0 ≤ a1) (E1 : Exa Z h0 a1 sN5) (F1 : Fld Z h0 a1 sN5 "e0" sN15 u1) (F2 : Fld Z h0 a1 sN5 "e1" sN15 u2) :
 yZ l Z (⟨sN5, "<init>", "(Ljava/lang/Object;Ljava/lang/Object;)V"⟩ : MethodName) jdk_44_method_2_code 3 none [] l2IR #[(.ref a1), (.ref r0), (.ref r1)] h0 (fun v h L => v = none ∧ Fr n0 L ∧ Keep h0 h [a1] ∧ Exa Z h a1 sN5 ∧ Fld Z h a1 sN5 "e0" sN15 (.ref r0) ∧ Fld Z h a1 sN5 "e1" sN15 (.ref r1)) := by
 refine yK (plainFor_of_name pd52) ?_
 intro p e s m below meth c T0 X0 hx hby hml hZ hown hnm hret hlk e0
 have hM := @qK _ _ hml
 have W := qC hw
 have Q := @yR p c _ _ _ hx hby d79
 have N0 := Fr.nil n0
 have zO := yM O0
 have zo := EM
 obtain ⟨SE_, lE_⟩ := zo
 refine yP 0 rfl rfl ?_
 refine yG m 0 #[rv a1, rv r0, rv r1] [] ?_
 refine yA (fun _ z_ => yC X0 (Q 0) rfl rfl z_) ?_
 refine yL (o_cI X0 hZ (y := mN33) rfl hown (W 376) (W 377) (W 381) (W 380) 0 (ailI hw a1 O0) e0 (by decide) rfl (hM rfl) (a := a1) [] (rest := []) pd33 rfl rfl rfl rfl rfl (Q 1)) ?_
 rintro T101 _ _ h101 X101 e101 ⟨rfl, N101q, hq101⟩
 replace e101 := e101.trans hq101
 have N101 := Fr.app N0 N101q
 refine yG m 4 #[rv a1, rv r0, rv r1] [] ?_
 refine yA (fun _ z_ => yC X101 (Q 2) rfl rfl (yC X101 (Q 3) rfl rfl z_)) ?_
 refine yL (qD X101 hZ (y := mN14) hown (W 390) (W 391) (W 392) (W 393) 1 (rnW hw r0 O0) e101 (by decide) rfl (hM rfl) [(.ref r0)] (rest := [(.ref a1)]) pd51 rfl rfl rfl rfl rfl (Q 4)) ?_
 rintro T102 _ _ h102 X102 e102 ⟨rfl, N102q, hq102⟩
 replace e102 := e102.trans hq102
 have N102 := Fr.app N101 N102q
 refine qL (putF X102 hx hZ hown (host := "") (Or.inl (W 394)) Via.refl e102 F1 E1 (Or.inr ⟨(W 395), rfl, hnm⟩) (W 370) (ty := (.object sN6)) (by decide) rfl rfl rfl rfl (Q 5).2) ?_
 intro T103 h103 X103 e103 W103
 have F103 := F1.same W103
 have K103 := Keep.of_wr W103
 have N103 := Fr.snoc X103 N102 (by omega : n0 ≤ a1)
 have zK103 := K103.1
 refine yA (fun _ z_ => yC X103 (Q 6) rfl rfl (yC X103 (Q 7) rfl rfl z_)) ?_
 have O104 : Old Z n0 h103 := O0.keep K103 (allS (by omega) all0)
 refine yL (qD X103 hZ (y := mN14) hown (W 390) (W 391) (W 392) (W 393) 1 (rnW hw r1 O104) e103 (by decide) rfl (hM rfl) [(.ref r1)] (rest := [(.ref a1)]) pd51 rfl rfl rfl rfl rfl (Q 8)) ?_
 rintro T105 _ _ h105 X105 e105 ⟨rfl, N105q, hq105⟩
 replace e105 := e105.trans hq105
 have N105 := Fr.app N103 N105q
 have f106 := (F2.other W103 (yS (Or.inr (W 398)) (Or.inr (W 395)) (by decide)))
 have f107 := (E1.keep K103)
 refine qL (putF X105 hx hZ hown (host := "") (Or.inl (W 397)) Via.refl e105 f106 f107 (Or.inr ⟨(W 398), rfl, hnm⟩) (W 370) (ty := (.object sN6)) (by decide) rfl rfl rfl rfl (Q 9).2) ?_
 intro T108 h108 X108 e108 W108
 have F108 := f106.same W108
 have K108 := Keep.of_wr W108
 have N108 := Fr.snoc X108 N105 (by omega : n0 ≤ a1)
 have zK108 := K108.1
 have KK109 := yF (yF (Keep.refl h0 [a1]) K103) K108
 have f110 := (f107.keep K108)
 have f111 := (F103.other W108 (yS (Or.inr (W 395)) (Or.inr (W 398)) (by decide)))
 exact uG X108 hlk e108 hret (Q 10) (by decide) ⟨rfl, N108, KK109, f110, f111, F108⟩
theorem d101 : yX jdk_45_method_1_code [(0, .aload_n 0, 1), (1, .invokespecial 1, 3), (4, .aload_n 0, 1), (5, .aload_n 1, 1), (6, .putfield 7, 3), (9, .aload_n 0, 1), (10, .iload_n 2, 1), (11, .putfield 13, 3), (14, .return_, 1)] := by decide +kernel
theorem pd53 : plainName sN12 = true := by first | (simp [plainName, overriddenIn]; done) | decide +kernel
abbrev lnIR : Room := { frames := 4, cells := 0, slots := 0, locals := 48 }
theorem lnI (hw : yQ a0 Z) (a1 a2 : Nat) (u1 u2 : Value) (O0 : Old Z n0 h0) (g1 : n0 ≤ a1) (E1 : Exa Z h0 a1 sN12) (F1 : Fld Z h0 a1 sN12 "elements" sN8 u1) (F2 : Fld Z h0 a1 sN12 "allowNulls" "Z" u2) :
 yZ l Z (⟨sN12, "<init>", "([Ljava/lang/Object;Z)V"⟩ : MethodName) jdk_45_method_1_code 3 none [] lnIR #[(.ref a1), (.ref a2), (.int (0 : Int32))] h0 (fun v h L => v = none ∧ Fr n0 L ∧ Keep h0 h [a1] ∧ Exa Z h a1 sN12 ∧ Fld Z h a1 sN12 "elements" sN8 (.ref a2)) := by
 refine yK (plainFor_of_name pd53) ?_
 intro p e s m below meth c T0 X0 hx hby hml hZ hown hnm hret hlk e0
 have hM := @qK _ _ hml
 have W := qC hw
 have Q := @yR p c _ _ _ hx hby d101
 have N0 := Fr.nil n0
 have zO := yM O0
 refine yP 0 rfl rfl ?_
 refine yG m 0 #[rv a1, rv a2, iv (0 : Int32)] [] ?_
 refine yA (fun _ z_ => yC X0 (Q 0) rfl rfl z_) ?_
 refine yL (o_cI X0 hZ (y := mN33) rfl hown (W 538) (W 377) (W 381) (W 380) 0 (ailI hw a1 O0) e0 (by decide) rfl (hM rfl) (a := a1) [] (rest := []) pd33 rfl rfl rfl rfl rfl (Q 1)) ?_
 rintro T101 _ _ h101 X101 e101 ⟨rfl, N101q, hq101⟩
 replace e101 := e101.trans hq101
 have N101 := Fr.app N0 N101q
 refine yA (fun _ z_ => yC X101 (Q 2) rfl rfl (yC X101 (Q 3) rfl rfl z_)) ?_
 refine qL (putF X101 hx hZ hown (host := "") (Or.inl (W 196)) Via.refl e101 F1 E1 (Or.inr ⟨(W 197), rfl, hnm⟩) (W 533) (ty := (.array (.object sN6))) (by decide) rfl rfl rfl rfl (Q 4).2) ?_
 intro T102 h102 X102 e102 W102
 have F102 := F1.same W102
 have K102 := Keep.of_wr W102
 have N102 := Fr.snoc X102 N101 (by omega : n0 ≤ a1)
 have zK102 := K102.1
 refine yA (fun _ z_ => yC X102 (Q 5) rfl rfl (yE X102 (Q 6) rfl z_)) ?_
 have f103 := (F2.other W102 (yS (Or.inr (W 543)) (Or.inr (W 197)) (by decide)))
 have f104 := (E1.keep K102)
 refine qL (putFN X102 hx hZ hown (W 542) Via.refl e102 f103 f104 (Or.inr ⟨(W 543), rfl, hnm⟩) (W 533) (ty := .boolean) (v' := (.int (0 : Int32))) (by decide) (by decide) (by decide) rfl rfl (Q 7).2) ?_
 intro T105 h105 X105 e105 W105
 have F105 := f103.same W105
 have K105 := Keep.of_wr W105
 have N105 := Fr.snoc X105 N102 (by omega : n0 ≤ a1)
 have zK105 := K105.1
 have KK106 := yF (yF (Keep.refl h0 [a1]) K102) K105
 have f107 := (f104.keep K105)
 have f108 := (F102.other W105 (yS (Or.inr (W 197)) (Or.inr (W 543)) (by decide)))
 exact uG X105 hlk e105 hret (Q 8) (by decide) ⟨rfl, N105, KK106, f107, f108⟩
theorem d100 : yX jdk_56_method_4_code [(0, .aload_n 0, 1), (1, .arraylength, 1), (2, .anewarray 2, 3), (5, .astore_n 1, 1), (6, .iconst 0, 1), (7, .istore_n 2, 1), (8, .iload_n 2, 1), (9, .aload_n 0, 1), (10, .arraylength, 1), (11, .if_icmp .ge 18, 3), (14, .aload_n 1, 1), (15, .iload_n 2, 1), (16, .aload_n 0, 1), (17, .iload_n 2, 1), (18, .aaload, 1), (19, .invokestatic 37, 3), (22, .aastore, 1), (23, .iinc 2 1, 3), (26, .goto (-18), 3), (29, .new 12, 3), (32, .dup, 1), (33, .aload_n 1, 1), (34, .iconst 0, 1), (35, .invokespecial 43, 3), (38, .areturn, 1)] := by decide +kernel
theorem pd54 : parseMethodDescriptor "([Ljava/lang/Object;Z)V" = some ⟨[(.array (.object sN6)), .boolean], none⟩ := by decide +kernel
theorem pd55 : plainName "java/util/ImmutableCollections" = true := by first | (simp [plainName, overriddenIn]; done) | decide +kernel
abbrev lfWR : Room := { frames := 5, cells := 2, slots := 5, locals := 63 }
theorem lfW (hw : yQ a0 Z) (a1 r0 r1 r2 : Nat) (k1 : ClassId) (O0 : Old Z n0 h0) (V1 : Arv Z h0 a1 k1 uW (3 : Int32) [.ref r0, .ref r1, .ref r2] .null) (ER0 : Exa Z h0 r0 sN2) (ER1 : Exa Z h0 r1 sN2) (ER2 : Exa Z h0 r2 sN2) :
 yZ l Z (⟨"java/util/ImmutableCollections", "listFromArray", "([Ljava/lang/Object;)Ljava/util/List;"⟩ : MethodName) jdk_56_method_4_code 3 (some (.object sN13)) [] lfWR #[(.ref a1)] h0 (fun v h L => Fr n0 L ∧ ∃ b u : Nat, v = some (.ref b) ∧ Keep h0 h [] ∧ h0.size ≤ b ∧ h0.size ≤ u ∧ o_LS Z h n0 b u [r0, r1, r2]) := by
 refine yK (plainFor_of_name pd55) ?_
 intro p e s m below meth c T0 X0 hx hby hml hZ hown hnm hret hlk e0
 have hM := @qK _ _ hml
 have W := qC hw
 have Q := @yR p c _ _ _ hx hby d100
 have N0 := Fr.nil n0
 have zO := yM O0
 have la1 := o_l V1.lt
 refine yP 2 rfl rfl ?_
 refine yG m 0 #[rv a1, .unset, .unset] [] ?_
 refine yA (fun _ z_ => yC X0 (Q 0) rfl rfl z_) ?_
 refine yG m 1 #[rv a1, .unset, .unset] [(.ref a1)] ?_
 have zo := V1
 obtain ⟨c101, Ar101, q101, S101, M101, H101, U101⟩ := zo
 refine yA (X0.arraylength hx (by rw [e0]; exact Ar101.1) (State.isArrayOf_alike hZ.alike Ar101.2.1) (g := (mkF m 1 #[rv a1, .unset, .unset] [(.ref a1)])) rfl rfl (Q 1).2) ?_
 rw [len_of S101 M101]
 have zo := newRE X0 hx hZ hown (W 531) (W 342) e0 (g := (mkF m 2 #[rv a1, .unset, .unset] [(.int (3 : Int32))])) rfl (Q 2).2 rfl (by decide) (cap := 3) (by decide) (by decide) (by decide) (by decide) (ad := sN8) (by decide +kernel)
 obtain ⟨T102, h102, k102, X102, e102, E102, A102, Q102, Ov102, st102⟩ := zo
 have zo : ∃ z, z = h0.size := ⟨_, rfl⟩
 obtain ⟨b102, g102⟩ := zo
 rw [← g102] at A102 Q102 st102
 have K102 : Keep h0 h102 [] := (Keep.refl _ _).ext E102
 have l102 : b102 < h102.size := A102.lt
 refine yA st102 ?_
 have zK102 := K102.1
 have V102 : Arv Z h102 b102 k102 uW (3 : Int32) [.null, .null, .null] .null := (Arv.new A102 (by decide)).pad (pad_rep [] .null 3)
 refine yA (fun _ z_ => XS.astoreN X102.here hx rfl (Q 3).2 rfl rfl rfl (yH X102 (Q 4) (XS.istoreN X102.here hx rfl (Q 5).2 rfl rfl (yE X102 (Q 6) rfl (yC X102 (Q 7) rfl rfl z_))))) ?_
 have f103 := (V1.keep K102 nin0)
 have zo := f103
 obtain ⟨c104, Ar104, q104, S104, M104, H104, U104⟩ := zo
 refine yA (X102.arraylength hx (by rw [e102]; exact Ar104.1) (State.isArrayOf_alike hZ.alike Ar104.2.1) (g := (mkF m 10 #[rv a1, rv b102, iv (0 : Int32)] [(.ref a1), (.int (0 : Int32))])) rfl rfl (Q 8).2) ?_
 rw [len_of S104 M104]
 refine yA (fun _ z_ => qH X102 (Q 9) rfl (tlt (by decide)).2.1 (yC X102 (Q 10) rfl rfl (yE X102 (Q 11) rfl (yC X102 (Q 12) rfl rfl (yE X102 (Q 13) rfl z_))))) ?_
 have zo := f103
 obtain ⟨c105, Ar105, q105, S105, M105, H105, U105⟩ := zo
 have hi105 := inb_of (j := (0 : Int32)) S105 ⟨by decide, by decide⟩
 refine yA (X102.aaload hx (j := (0 : Int32)) (v := (.ref r0)) (by rw [e102]; exact Ar105.1) (State.isArrayOf_alike hZ.alike Ar105.2.1) rfl Ar105.2.2 hi105 (H105.at hi105 rfl) (g := (mkF m 18 #[rv a1, rv b102, iv (0 : Int32)] [(.int (0 : Int32)), (.ref a1), (.int (0 : Int32)), (.ref b102)])) rfl rfl (Q 14).2) ?_
 have O106 : Old Z n0 h102 := O0.keep K102 all0
 refine yL (qD X102 hZ (y := mN14) hown (W 532) (W 391) (W 392) (W 393) 2 (rnW hw r0 O106) e102 (by decide) rfl (hM rfl) [(.ref r0)] (rest := [(.int (0 : Int32)), (.ref b102)]) pd51 rfl rfl rfl rfl rfl (Q 15)) ?_
 rintro T107 _ _ h107 X107 e107 ⟨rfl, N107q, hq107⟩
 replace e107 := e107.trans hq107
 have N107 := Fr.app N0 N107q
 have f109 := (ER0.keep K102)
 have zo := V102
 obtain ⟨c108, Ar108, q108, S108, M108, H108, U108⟩ := zo
 refine qL (stR X107 hx hZ e107 Ar108 (j := (0 : Int32)) (inb_of S108 ⟨by decide, by decide⟩) rfl (Sto.ofV Ar108 q108 Ov102 (Ins.of_exa f109 (W 343))) rfl rfl (Q 16).2) ?_
 intro T108 h108 X108 e108 W108
 have V108 := Arv.set Ar108 q108 S108 M108 H108 U108 (v := .ref r0) rfl W108 0 rfl (Nat.le_of_ble_eq_true rfl)
 have K108 := Keep.of_wr W108
 have N108 := Fr.snoc X108 N107 (by omega : n0 ≤ b102)
 have zK108 := K108.1
 refine yA (fun _ z_ => XS.iinc X108.here hx rfl (Q 17).2 rfl rfl (yT X108 26 8 rfl (Q 18) (by decide) z_)) ?_
 refine yG m 8 #[rv a1, rv b102, iv ((0 : Int32) + (1 : Int32))] [] ?_
 rw [(by decide : ((0 : Int32) + (1 : Int32)) = (1 : Int32))]
 refine yA (fun _ z_ => yE X108 (Q 6) rfl (yC X108 (Q 7) rfl rfl z_)) ?_
 have f110 := (f103.keep K108 (yB (by omega) nin0))
 have zo := f110
 obtain ⟨c111, Ar111, q111, S111, M111, H111, U111⟩ := zo
 refine yA (X108.arraylength hx (by rw [e108]; exact Ar111.1) (State.isArrayOf_alike hZ.alike Ar111.2.1) (g := (mkF m 10 #[rv a1, rv b102, iv (1 : Int32)] [(.ref a1), (.int (1 : Int32))])) rfl rfl (Q 8).2) ?_
 rw [len_of S111 M111]
 refine yA (fun _ z_ => qH X108 (Q 9) rfl (tlt (by decide)).2.1 (yC X108 (Q 10) rfl rfl (yE X108 (Q 11) rfl (yC X108 (Q 12) rfl rfl (yE X108 (Q 13) rfl z_))))) ?_
 have zo := f110
 obtain ⟨c112, Ar112, q112, S112, M112, H112, U112⟩ := zo
 have hi112 := inb_of (j := (1 : Int32)) S112 ⟨by decide, by decide⟩
 refine yA (X108.aaload hx (j := (1 : Int32)) (v := (.ref r1)) (by rw [e108]; exact Ar112.1) (State.isArrayOf_alike hZ.alike Ar112.2.1) rfl Ar112.2.2 hi112 (H112.at hi112 rfl) (g := (mkF m 18 #[rv a1, rv b102, iv (1 : Int32)] [(.int (1 : Int32)), (.ref a1), (.int (1 : Int32)), (.ref b102)])) rfl rfl (Q 14).2) ?_
 have O113 : Old Z n0 h108 := O106.keep K108 (allS (by omega) all0)
 refine yL (qD X108 hZ (y := mN14) hown (W 532) (W 391) (W 392) (W 393) 2 (rnW hw r1 O113) e108 (by decide) rfl (hM rfl) [(.ref r1)] (rest := [(.int (1 : Int32)), (.ref b102)]) pd51 rfl rfl rfl rfl rfl (Q 15)) ?_
 rintro T114 _ _ h114 X114 e114 ⟨rfl, N114q, hq114⟩
 replace e114 := e114.trans hq114
 have N114 := Fr.app N108 N114q
 have KK116 := yN (yI (Keep.refl h0 []) K102) K108
 have f117 := (ER1.keep KK116)
 have zo := V108
 obtain ⟨c115, Ar115, q115, S115, M115, H115, U115⟩ := zo
 refine qL (stR X114 hx hZ e114 Ar115 (j := (1 : Int32)) (inb_of S115 ⟨by decide, by decide⟩) rfl (Sto.ofV Ar115 q115 Ov102 (Ins.of_exa f117 (W 343))) rfl rfl (Q 16).2) ?_
 intro T115 h115 X115 e115 W115
 have V115 := Arv.set Ar115 q115 S115 M115 H115 U115 (v := .ref r1) rfl W115 1 rfl (Nat.le_of_ble_eq_true rfl)
 have K115 := Keep.of_wr W115
 have N115 := Fr.snoc X115 N114 (by omega : n0 ≤ b102)
 have zK115 := K115.1
 refine yA (fun _ z_ => XS.iinc X115.here hx rfl (Q 17).2 rfl rfl (yT X115 26 8 rfl (Q 18) (by decide) z_)) ?_
 refine yG m 8 #[rv a1, rv b102, iv ((1 : Int32) + (1 : Int32))] [] ?_
 rw [(by decide : ((1 : Int32) + (1 : Int32)) = (2 : Int32))]
 refine yA (fun _ z_ => yE X115 (Q 6) rfl (yC X115 (Q 7) rfl rfl z_)) ?_
 have f118 := (f110.keep K115 (yB (by omega) nin0))
 have zo := f118
 obtain ⟨c119, Ar119, q119, S119, M119, H119, U119⟩ := zo
 refine yA (X115.arraylength hx (by rw [e115]; exact Ar119.1) (State.isArrayOf_alike hZ.alike Ar119.2.1) (g := (mkF m 10 #[rv a1, rv b102, iv (2 : Int32)] [(.ref a1), (.int (2 : Int32))])) rfl rfl (Q 8).2) ?_
 rw [len_of S119 M119]
 refine yA (fun _ z_ => qH X115 (Q 9) rfl (tlt (by decide)).2.1 (yC X115 (Q 10) rfl rfl (yE X115 (Q 11) rfl (yC X115 (Q 12) rfl rfl (yE X115 (Q 13) rfl z_))))) ?_
 have zo := f118
 obtain ⟨c120, Ar120, q120, S120, M120, H120, U120⟩ := zo
 have hi120 := inb_of (j := (2 : Int32)) S120 ⟨by decide, by decide⟩
 refine yA (X115.aaload hx (j := (2 : Int32)) (v := (.ref r2)) (by rw [e115]; exact Ar120.1) (State.isArrayOf_alike hZ.alike Ar120.2.1) rfl Ar120.2.2 hi120 (H120.at hi120 rfl) (g := (mkF m 18 #[rv a1, rv b102, iv (2 : Int32)] [(.int (2 : Int32)), (.ref a1), (.int (2 : Int32)), (.ref b102)])) rfl rfl (Q 14).2) ?_
 have O121 : Old Z n0 h115 := O113.keep K115 (allS (by omega) all0)
 refine yL (qD X115 hZ (y := mN14) hown (W 532) (W 391) (W 392) (W 393) 2 (rnW hw r2 O121) e115 (by decide) rfl (hM rfl) [(.ref r2)] (rest := [(.int (2 : Int32)), (.ref b102)]) pd51 rfl rfl rfl rfl rfl (Q 15)) ?_
 rintro T122 _ _ h122 X122 e122 ⟨rfl, N122q, hq122⟩
 replace e122 := e122.trans hq122
 have N122 := Fr.app N115 N122q
 have KK124 := yN (yN (yI (Keep.refl h0 []) K102) K108) K115
 have f125 := (ER2.keep KK124)
 have zo := V115
 obtain ⟨c123, Ar123, q123, S123, M123, H123, U123⟩ := zo
 refine qL (stR X122 hx hZ e122 Ar123 (j := (2 : Int32)) (inb_of S123 ⟨by decide, by decide⟩) rfl (Sto.ofV Ar123 q123 Ov102 (Ins.of_exa f125 (W 343))) rfl rfl (Q 16).2) ?_
 intro T123 h123 X123 e123 W123
 have V123 := Arv.set Ar123 q123 S123 M123 H123 U123 (v := .ref r2) rfl W123 2 rfl (Nat.le_of_ble_eq_true rfl)
 have K123 := Keep.of_wr W123
 have N123 := Fr.snoc X123 N122 (by omega : n0 ≤ b102)
 have zK123 := K123.1
 refine yA (fun _ z_ => XS.iinc X123.here hx rfl (Q 17).2 rfl rfl (yT X123 26 8 rfl (Q 18) (by decide) z_)) ?_
 refine yG m 8 #[rv a1, rv b102, iv ((2 : Int32) + (1 : Int32))] [] ?_
 rw [(by decide : ((2 : Int32) + (1 : Int32)) = (3 : Int32))]
 refine yA (fun _ z_ => yE X123 (Q 6) rfl (yC X123 (Q 7) rfl rfl z_)) ?_
 have f126 := (f118.keep K123 (yB (by omega) nin0))
 have zo := f126
 obtain ⟨c127, Ar127, q127, S127, M127, H127, U127⟩ := zo
 refine yA (X123.arraylength hx (by rw [e123]; exact Ar127.1) (State.isArrayOf_alike hZ.alike Ar127.2.1) (g := (mkF m 10 #[rv a1, rv b102, iv (3 : Int32)] [(.ref a1), (.int (3 : Int32))])) rfl rfl (Q 8).2) ?_
 rw [len_of S127 M127]
 refine yA (fun _ z_ => qG X123 11 29 rfl (Q 9) rfl (flt (by decide)).2.1 (by decide) z_) ?_
 have zo := newO X123 hx hZ hown (W 151) (W 533) (W 194) e123 (g := (mkF m 29 #[rv a1, rv b102, iv (3 : Int32)] [])) rfl (Q 19).2 (by decide) (by decide)
 obtain ⟨T128, h128, X128, e128, E128, A128, D128, -, st128⟩ := zo
 have zo : ∃ z, z = h123.size := ⟨_, rfl⟩
 obtain ⟨b128, g128⟩ := zo
 rw [← g128] at A128 D128 st128
 have K128 : Keep h123 h128 [] := (Keep.refl _ _).ext E128
 have l128 : b128 < h128.size := A128.lt
 refine yA st128 ?_
 have zK128 := K128.1
 refine yA (fun _ z_ => qJ X128 (Q 20) rfl rfl (yC X128 (Q 21) rfl rfl (yH X128 (Q 22) z_))) ?_
 have KK129 := yI (yF (Keep.refl h115 [b102]) K123) K128
 have O130 : Old Z n0 h128 := O121.keep KK129 (allS (by omega) all0)
 have F_elements_b128 : Fld Z h128 b128 sN12 "elements" sN8 .null := D128 (Or.inr (W 197)) (ty := (.array (.object sN6))) (by decide)
 have F_allowNulls_b128 : Fld Z h128 b128 sN12 "allowNulls" "Z" (.int (0 : Int32)) := D128 (Or.inr (W 543)) (ty := .boolean) (by decide)
 refine yL (o_callIN X128 hx hZ (y := (⟨sN12, "<init>", "([Ljava/lang/Object;Z)V"⟩ : MethodName)) rfl hown (W 534) (W 535) (W 537) (by decide) (qY (W := 1) (lnI hw b128 b102 _ _ O130 (by omega) A128 F_elements_b128 F_allowNulls_b128) hZ (W 537) (W 194) (by decide) (by decide)) e128 (by decide) (by decide) rfl (hM rfl) (a := b128) (argsL := [(.ref b102), (.int (0 : Int32))]) (rest := [(.ref b128)]) (lenOf pd54 rfl) rfl rfl (qE rfl rfl) (Q 23).2) ?_
 rintro T131 _ _ h131 X131 e131 ⟨rfl, N131q, K131, E131, Fa131⟩
 have zK131 := K131.1
 have N131 := Fr.app N123 N131q
 have KK132 := yN (yI (yN (yN (yN (yI (Keep.refl h0 []) K102) K108) K115) K123) K128) K131
 have KK133 := yN (yI (Keep.refl h123 []) K128) K131
 have f134 := (V123.keep KK133 nin0)
 exact yW X131 hlk e131 hret rfl (uA rfl rfl) (Q 24) (by decide) ⟨N131, b128, b102, rfl, KK132, by omega, by omega, E131, _, Fa131, f134⟩
theorem d63 : yX jdk_40_method_47_code [(0, .aload_n 0, 1), (1, .arraylength, 1), (2, .tableswitch 57 0 2 #[26, 32, 43], 26), (34, .new 96, 3), (37, .dup, 1), (38, .aload_n 0, 1), (39, .iconst 0, 1), (40, .aaload, 1), (41, .invokespecial 98, 3), (44, .areturn, 1), (45, .new 96, 3), (48, .dup, 1), (49, .aload_n 0, 1), (50, .iconst 0, 1), (51, .aaload, 1), (52, .aload_n 0, 1), (53, .iconst 1, 1), (54, .aaload, 1), (55, .invokespecial 100, 3), (58, .areturn, 1), (59, .aload_n 0, 1), (60, .invokestatic 109, 3), (63, .areturn, 1)] := by decide +kernel
theorem pd56 : parseMethodDescriptor "(Ljava/lang/Object;)V" = some ⟨[(.object sN6)], none⟩ := by decide +kernel
theorem pd57 : plainName sN13 = true := by first | (simp [plainName, overriddenIn]; done) | decide +kernel
abbrev ofA1R : Room := { frames := 6, cells := 2, slots := 5, locals := 77 }
theorem ofA1 (hw : yQ a0 Z) (a1 em r0 : Nat) (k1 : ClassId) (O0 : Old Z n0 h0) (EM : o_EM Z em) (V1 : Arv Z h0 a1 k1 uW (1 : Int32) [.ref r0] .null) (ER0 : Exa Z h0 r0 sN2) :
 yZ l Z mN23 jdk_40_method_47_code 2 (some (.object sN13)) [] ofA1R #[(.ref a1)] h0 (fun v h L => Fr n0 L ∧ ∃ b u : Nat, v = some (.ref b) ∧ Keep h0 h [] ∧ (∀ w : Nat, n0 ≤ w → w < h0.size → b ≠ w ∧ u ≠ w) ∧ o_LS Z h n0 b u [r0]) := by
 refine yK (plainFor_of_name pd57) ?_
 intro p e s m below meth c T0 X0 hx hby hml hZ hown hnm hret hlk e0
 have hM := @qK _ _ hml
 have W := qC hw
 have Q := @yR p c _ _ _ hx hby d63
 have N0 := Fr.nil n0
 have zO := yM O0
 have la1 := o_l V1.lt
 refine yP 1 rfl rfl ?_
 refine yG m 0 #[rv a1, .unset] [] ?_
 refine yA (fun _ z_ => yC X0 (Q 0) rfl rfl z_) ?_
 have zo := V1
 obtain ⟨c101, Ar101, q101, S101, M101, H101, U101⟩ := zo
 refine yA (X0.arraylength hx (by rw [e0]; exact Ar101.1) (State.isArrayOf_alike hZ.alike Ar101.2.1) (g := (mkF m 1 #[rv a1, .unset] [(.ref a1)])) rfl rfl (Q 1).2) ?_
 rw [len_of S101 M101]
 refine yA (fun t z_ => Stand.tableswitchIn X0 hx (g := (mkF m 2 #[rv a1, .unset] [(.int (1 : Int32))])) rfl rfl (Q 2).2 (by decide) (off := 32) rfl (show (0 : Int) ≤ 2 + 32 from by decide) t z_) ?_
 have zo := newO X0 hx hZ hown (W 369) (W 370) (W 371) e0 (g := (mkF m 34 #[rv a1, .unset] [])) rfl (Q 3).2 (by decide) (by decide)
 obtain ⟨T102, h102, X102, e102, E102, A102, D102, -, st102⟩ := zo
 have zo : ∃ z, z = h0.size := ⟨_, rfl⟩
 obtain ⟨b102, g102⟩ := zo
 rw [← g102] at A102 D102 st102
 have K102 : Keep h0 h102 [] := (Keep.refl _ _).ext E102
 have l102 : b102 < h102.size := A102.lt
 refine yA st102 ?_
 have zK102 := K102.1
 refine yA (fun _ z_ => qJ X102 (Q 4) rfl rfl (yC X102 (Q 5) rfl rfl (yH X102 (Q 6) z_))) ?_
 have f103 := (V1.keep K102 nin0)
 have zo := f103
 obtain ⟨c104, Ar104, q104, S104, M104, H104, U104⟩ := zo
 have hi104 := inb_of (j := (0 : Int32)) S104 ⟨by decide, by decide⟩
 refine yA (X102.aaload hx (j := (0 : Int32)) (v := (.ref r0)) (by rw [e102]; exact Ar104.1) (State.isArrayOf_alike hZ.alike Ar104.2.1) rfl Ar104.2.2 hi104 (H104.at hi104 rfl) (g := (mkF m 40 #[rv a1, .unset] [(.int (0 : Int32)), (.ref a1), (.ref b102), (.ref b102)])) rfl rfl (Q 7).2) ?_
 refine yG m 41 #[rv a1, .unset] [(.ref r0), (.ref b102), (.ref b102)] ?_
 have O105 : Old Z n0 h102 := O0.keep K102 all0
 have F_e0_b102 : Fld Z h102 b102 sN5 "e0" sN15 .null := D102 (Or.inr (W 395)) (ty := (.object sN6)) (by decide)
 have F_e1_b102 : Fld Z h102 b102 sN5 "e1" sN15 .null := D102 (Or.inr (W 398)) (ty := (.object sN6)) (by decide)
 refine yL (o_cI X102 hZ (y := (⟨sN5, "<init>", "(Ljava/lang/Object;)V"⟩ : MethodName)) rfl hown (W 372) (W 373) (W 375) (W 371) 1 (l1I hw b102 em r0 _ _ O105 EM (by omega) A102 F_e0_b102 F_e1_b102) e102 (by decide) rfl (hM rfl) (a := b102) [(.ref r0)] (rest := [(.ref b102)]) pd56 rfl rfl rfl rfl rfl (Q 8)) ?_
 rintro T106 _ _ h106 X106 e106 ⟨rfl, N106q, K106, E106, Fa106, Fb106⟩
 have zK106 := K106.1
 have N106 := Fr.app N0 N106q
 have KK107 := yN (yI (Keep.refl h0 []) K102) K106
 exact yW X106 hlk e106 hret rfl (uA rfl rfl) (Q 9) (by decide) ⟨N106, b102, b102, rfl, KK107, (fun w_ g_ l_ => by omega), em, EM, E106, Fa106, Fb106⟩
theorem pd58 : parseMethodDescriptor "(Ljava/lang/Object;Ljava/lang/Object;)V" = some ⟨[(.object sN6), (.object sN6)], none⟩ := by decide +kernel
abbrev ofA2R : Room := { frames := 6, cells := 2, slots := 5, locals := 77 }
theorem ofA2 (hw : yQ a0 Z) (a1 em r0 r1 : Nat) (k1 : ClassId) (O0 : Old Z n0 h0) (EM : o_EM Z em) (V1 : Arv Z h0 a1 k1 uW (2 : Int32) [.ref r0, .ref r1] .null) (ER0 : Exa Z h0 r0 sN2) (ER1 : Exa Z h0 r1 sN2) (hr1 : n0 ≤ r1) :
 yZ l Z mN23 jdk_40_method_47_code 2 (some (.object sN13)) [] ofA2R #[(.ref a1)] h0 (fun v h L => Fr n0 L ∧ ∃ b u : Nat, v = some (.ref b) ∧ Keep h0 h [] ∧ (∀ w : Nat, n0 ≤ w → w < h0.size → b ≠ w ∧ u ≠ w) ∧ o_LS Z h n0 b u [r0, r1]) := by
 refine yK (plainFor_of_name pd57) ?_
 intro p e s m below meth c T0 X0 hx hby hml hZ hown hnm hret hlk e0
 have hM := @qK _ _ hml
 have W := qC hw
 have Q := @yR p c _ _ _ hx hby d63
 have N0 := Fr.nil n0
 have zO := yM O0
 have la1 := o_l V1.lt
 refine yP 1 rfl rfl ?_
 refine yG m 0 #[rv a1, .unset] [] ?_
 refine yA (fun _ z_ => yC X0 (Q 0) rfl rfl z_) ?_
 have zo := V1
 obtain ⟨c101, Ar101, q101, S101, M101, H101, U101⟩ := zo
 refine yA (X0.arraylength hx (by rw [e0]; exact Ar101.1) (State.isArrayOf_alike hZ.alike Ar101.2.1) (g := (mkF m 1 #[rv a1, .unset] [(.ref a1)])) rfl rfl (Q 1).2) ?_
 rw [len_of S101 M101]
 refine yA (fun t z_ => Stand.tableswitchIn X0 hx (g := (mkF m 2 #[rv a1, .unset] [(.int (2 : Int32))])) rfl rfl (Q 2).2 (by decide) (off := 43) rfl (show (0 : Int) ≤ 2 + 43 from by decide) t z_) ?_
 have zo := newO X0 hx hZ hown (W 369) (W 370) (W 371) e0 (g := (mkF m 45 #[rv a1, .unset] [])) rfl (Q 10).2 (by decide) (by decide)
 obtain ⟨T102, h102, X102, e102, E102, A102, D102, -, st102⟩ := zo
 have zo : ∃ z, z = h0.size := ⟨_, rfl⟩
 obtain ⟨b102, g102⟩ := zo
 rw [← g102] at A102 D102 st102
 have K102 : Keep h0 h102 [] := (Keep.refl _ _).ext E102
 have l102 : b102 < h102.size := A102.lt
 refine yA st102 ?_
 have zK102 := K102.1
 refine yA (fun _ z_ => qJ X102 (Q 11) rfl rfl (yC X102 (Q 12) rfl rfl (yH X102 (Q 13) z_))) ?_
 have f103 := (V1.keep K102 nin0)
 have zo := f103
 obtain ⟨c104, Ar104, q104, S104, M104, H104, U104⟩ := zo
 have hi104 := inb_of (j := (0 : Int32)) S104 ⟨by decide, by decide⟩
 refine yA (X102.aaload hx (j := (0 : Int32)) (v := (.ref r0)) (by rw [e102]; exact Ar104.1) (State.isArrayOf_alike hZ.alike Ar104.2.1) rfl Ar104.2.2 hi104 (H104.at hi104 rfl) (g := (mkF m 51 #[rv a1, .unset] [(.int (0 : Int32)), (.ref a1), (.ref b102), (.ref b102)])) rfl rfl (Q 14).2) ?_
 refine yA (fun _ z_ => yC X102 (Q 15) rfl rfl (yH X102 (Q 16) z_)) ?_
 have zo := f103
 obtain ⟨c105, Ar105, q105, S105, M105, H105, U105⟩ := zo
 have hi105 := inb_of (j := (1 : Int32)) S105 ⟨by decide, by decide⟩
 refine yA (X102.aaload hx (j := (1 : Int32)) (v := (.ref r1)) (by rw [e102]; exact Ar105.1) (State.isArrayOf_alike hZ.alike Ar105.2.1) rfl Ar105.2.2 hi105 (H105.at hi105 rfl) (g := (mkF m 54 #[rv a1, .unset] [(.int (1 : Int32)), (.ref a1), (.ref r0), (.ref b102), (.ref b102)])) rfl rfl (Q 17).2) ?_
 have O106 : Old Z n0 h102 := O0.keep K102 all0
 have F_e0_b102 : Fld Z h102 b102 sN5 "e0" sN15 .null := D102 (Or.inr (W 395)) (ty := (.object sN6)) (by decide)
 have F_e1_b102 : Fld Z h102 b102 sN5 "e1" sN15 .null := D102 (Or.inr (W 398)) (ty := (.object sN6)) (by decide)
 refine yL (o_cI X102 hZ (y := (⟨sN5, "<init>", "(Ljava/lang/Object;Ljava/lang/Object;)V"⟩ : MethodName)) rfl hown (W 451) (W 452) (W 453) (W 371) 1 (l2I hw b102 em r0 r1 _ _ O106 EM (by omega) A102 F_e0_b102 F_e1_b102) e102 (by decide) rfl (hM rfl) (a := b102) [(.ref r0), (.ref r1)] (rest := [(.ref b102)]) pd58 rfl rfl rfl rfl rfl (Q 18)) ?_
 rintro T107 _ _ h107 X107 e107 ⟨rfl, N107q, K107, E107, Fa107, Fb107⟩
 have zK107 := K107.1
 have N107 := Fr.app N0 N107q
 have KK108 := yN (yI (Keep.refl h0 []) K102) K107
 exact yW X107 hlk e107 hret rfl (uA rfl rfl) (Q 19) (by decide) ⟨N107, b102, b102, rfl, KK108, (fun w_ g_ l_ => by omega), hr1, E107, Fa107, Fb107⟩
theorem pd59 : parseMethodDescriptor "([Ljava/lang/Object;)Ljava/util/List;" = some ⟨[(.array (.object sN6))], some (.object sN13)⟩ := by decide +kernel
abbrev ofA3R : Room := { frames := 6, cells := 2, slots := 5, locals := 77 }
theorem ofA3 (hw : yQ a0 Z) (a1 em r0 r1 r2 : Nat) (k1 : ClassId) (O0 : Old Z n0 h0) (EM : o_EM Z em) (V1 : Arv Z h0 a1 k1 uW (3 : Int32) [.ref r0, .ref r1, .ref r2] .null) (ER0 : Exa Z h0 r0 sN2) (ER1 : Exa Z h0 r1 sN2) (ER2 : Exa Z h0 r2 sN2) :
 yZ l Z mN23 jdk_40_method_47_code 2 (some (.object sN13)) [] ofA3R #[(.ref a1)] h0 (fun v h L => Fr n0 L ∧ ∃ b u : Nat, v = some (.ref b) ∧ Keep h0 h [] ∧ (∀ w : Nat, n0 ≤ w → w < h0.size → b ≠ w ∧ u ≠ w) ∧ o_LS Z h n0 b u [r0, r1, r2]) := by
 refine yK (plainFor_of_name pd57) ?_
 intro p e s m below meth c T0 X0 hx hby hml hZ hown hnm hret hlk e0
 have hM := @qK _ _ hml
 have W := qC hw
 have Q := @yR p c _ _ _ hx hby d63
 have N0 := Fr.nil n0
 have zO := yM O0
 have la1 := o_l V1.lt
 refine yP 1 rfl rfl ?_
 refine yG m 0 #[rv a1, .unset] [] ?_
 refine yA (fun _ z_ => yC X0 (Q 0) rfl rfl z_) ?_
 have zo := V1
 obtain ⟨c101, Ar101, q101, S101, M101, H101, U101⟩ := zo
 refine yA (X0.arraylength hx (by rw [e0]; exact Ar101.1) (State.isArrayOf_alike hZ.alike Ar101.2.1) (g := (mkF m 1 #[rv a1, .unset] [(.ref a1)])) rfl rfl (Q 1).2) ?_
 rw [len_of S101 M101]
 refine yA (fun t z_ => Stand.tableswitchOut X0 hx (g := (mkF m 2 #[rv a1, .unset] [(.int (3 : Int32))])) rfl rfl (Q 2).2 (by decide) (show (0 : Int) ≤ 2 + 57 from by decide) t z_) ?_
 refine yG m 59 #[rv a1, .unset] [] ?_
 refine yA (fun _ z_ => yC X0 (Q 20) rfl rfl z_) ?_
 refine yL (qD X0 hZ (y := (⟨"java/util/ImmutableCollections", "listFromArray", "([Ljava/lang/Object;)Ljava/util/List;"⟩ : MethodName)) hown (W 528) (W 529) (W 144) (W 530) 0 (lfW hw a1 r0 r1 r2 _ O0 V1 ER0 ER1 ER2) e0 (by decide) rfl (hM rfl) [(.ref a1)] (rest := []) pd59 rfl rfl rfl rfl rfl (Q 21)) ?_
 rintro T102 _ _ h102 X102 e102 ⟨N102q, b102, u102, rfl, K102, zb102, zu102, S102⟩
 have zK102 := K102.1
 have N102 := Fr.app N0 N102q
 exact yW X102 hlk e102 hret rfl (uA rfl rfl) (Q 22) (by decide) ⟨N102, b102, u102, rfl, K102, (fun w_ g_ l_ => by omega), S102⟩
theorem ofA (hw : yQ a0 Z) (a1 em : Nat) (k1 : ClassId) (rs : List Nat) (O0 : Old Z n0 h0) (EM : o_EM Z em) (hne : rs ≠ []) (hrl : rs.length ≤ 3) (ER : ∀ r ∈ rs, Exa Z h0 r sN2) (hr : ∀ r ∈ rs, n0 ≤ r) (V1 : Arv Z h0 a1 k1 uW (ofNat rs.length) (rs.map Value.ref) .null) :
 yZ l Z mN23 jdk_40_method_47_code 2 (some (.object sN13)) [] ofA1R #[.ref a1] h0 (fun v h L => Fr n0 L ∧ ∃ b u : Nat, v = some (.ref b) ∧ Keep h0 h [] ∧ (∀ w : Nat, n0 ≤ w → w < h0.size → b ≠ w ∧ u ≠ w) ∧ o_LS Z h n0 b u rs) := by
 match rs, hne, hrl, ER, hr, V1 with
 | [], h, _, _, _, _ => exact absurd rfl h
 | [r0], _, _, ER, hr, V1 => exact ofA1 hw a1 em r0 k1 O0 EM V1 (ER r0 (by simp))
 | [r0, r1], _, _, ER, hr, V1 => exact ofA2 hw a1 em r0 r1 k1 O0 EM V1 (ER r0 (by simp)) (ER r1 (by simp)) (hr r1 (by simp))
 | [r0, r1, r2], _, _, ER, hr, V1 => exact ofA3 hw a1 em r0 r1 r2 k1 O0 EM V1 (ER r0 (by simp)) (ER r1 (by simp)) (ER r2 (by simp))
 | _ :: _ :: _ :: _ :: _, _, h, _, _, _ => simp at h
theorem d29 : yX jdk_40_method_36_code [(0, .getstatic 90, 3), (3, .areturn, 1)] := by decide +kernel
abbrev of0R : Room := { frames := 0, cells := 0, slots := 0, locals := 0 }
theorem of0 (hw : yQ a0 Z) (bE : Nat) (O0 : Old Z n0 h0) (E0 : o_E0 Z bE) :
 yZ l Z (⟨sN13, "of", "()Ljava/util/List;"⟩ : MethodName) jdk_40_method_36_code 0 (some (.object sN13)) [] of0R #[] h0 (fun v h L => v = some (.ref bE) ∧ Fr n0 L ∧ h = h0) := by
 refine yK (plainFor_of_name pd57) ?_
 intro p e s m below meth c T0 X0 hx hby hml hZ hown hnm hret hlk e0
 have W := qC hw
 have Q := @yR p c _ _ _ hx hby d29
 have N0 := Fr.nil n0
 have zO := yM O0
 have zo := E0
 obtain ⟨SL_, -⟩ := zo
 refine yP 0 rfl rfl ?_
 refine yG m 0 #[] [] ?_
 refine yO (getS2 X0 hx hZ hown (host := "") (Or.inl (W 166)) Via.refl e0 (SL_.ext O0.2) rfl (Q 0).2) ?_
 intro T101 X101 e101
 exact yW X101 hlk e101 hret rfl (uA rfl rfl) (Q 1) (by decide) ⟨rfl, N0, rfl⟩
theorem d27 : yX jdk_56_method_3_code [(0, .aload_n 0, 1), (1, .instanceof 10, 3), (4, .ifCond .ne 22, 3), (7, .aload_n 0, 1), (8, .instanceof 12, 3), (11, .ifCond .eq 20, 3), (31, .aload_n 0, 1), (32, .invokeinterface 20 1, 5), (37, .ifCond .eq 7, 3), (40, .invokestatic 26, 3), (43, .areturn, 1), (44, .aload_n 0, 1), (45, .invokeinterface 30 1, 5), (50, .invokestatic 34, 3), (53, .areturn, 1)] := by decide +kernel
theorem pd60 : parseMethodDescriptor "()Ljava/util/List;" = some ⟨[], some (.object sN13)⟩ := by decide +kernel
abbrev lc0R : Room := { frames := 7, cells := 3, slots := 15, locals := 90 }
theorem lc0 (hw : yQ a0 Z) (a1 y1 mr em bE : Nat) (rs : List Nat) (O0 : Old Z n0 h0) (MM : o_MM Z sN8 mr) (EM : o_EM Z em) (E0 : o_E0 Z bE) (hrl : rs.length ≤ 3) (ER : ∀ r ∈ rs, Exa Z h0 r sN2) (hr : ∀ r ∈ rs, n0 ≤ r) (S1 : o_AL Z h0 a1 y1 rs) (hne : rs = []) :
 yZ l Z mN34 jdk_56_method_3_code 2 (some (.object sN13)) [] lc0R #[(.ref a1)] h0 (fun v h L => Fr n0 L ∧ ∃ b u : Nat, v = some (.ref b) ∧ Keep h0 h [] ∧ (∀ w : Nat, n0 ≤ w → w < h0.size → b ≠ w ∧ u ≠ w) ∧ o_LS Z h n0 b u rs) := by
 refine yK (plainFor_of_name pd55) ?_
 intro p e s m below meth c T0 X0 hx hby hml hZ hown hnm hret hlk e0
 have hM := @qK _ _ hml
 have W := qC hw
 have Q := @yR p c _ _ _ hx hby d27
 have N0 := Fr.nil n0
 have zO := yM O0
 have la1 := S1.lt
 have FZ := S1.size
 have zz0 : Z.heap.size = n0 := O0.1
 refine yP 1 rfl rfl ?_
 refine yG m 0 #[rv a1, .unset] [] ?_
 refine yA (fun _ z_ => yC X0 (Q 0) rfl rfl z_) ?_
 refine yO (instNo X0 hx hZ hown (W 146) e0 S1.1 (o_noIns3 (W 147) (W 148) (W 149) (W 150) (W 370) (by decide) (by decide) (by decide) (by decide)) rfl rfl (Q 1).2) ?_
 intro T101 X101 e101
 refine yA (fun _ z_ => qA X101 (Q 2) rfl ((if0 _ _).trans (teq (by decide)).2) (yC X101 (Q 3) rfl rfl z_)) ?_
 refine yO (instNo X101 hx hZ hown (W 151) e101 S1.1 (o_noIns3 (W 147) (W 148) (W 149) (W 150) (W 533) (by decide) (by decide) (by decide) (by decide)) rfl rfl (Q 4).2) ?_
 intro T102 X102 e102
 refine yA (fun _ z_ => qF X102 11 31 rfl (Q 5) rfl ((if0 _ _).trans (teq (by decide)).1) (by decide) (yC X102 (Q 6) rfl rfl z_)) ?_
 refine yL (o_cF X102 hZ (y := (⟨"java/util/Collection", "isEmpty", "()Z"⟩ : MethodName)) (z := mN32) hown (W 152) (W 153) (mvT hZ (W 154)) (W 155) (W 156) (W 157) (W 158) (W 159) (W 160) (W 92) 0 (ie1 hw a1 rs.length O0 (by rw [hne]; rfl) (by omega) FZ) e102 S1.1 (by decide) rfl (hM rfl) [] (rest := []) pd16 rfl rfl rfl rfl rfl (Q 7)) ?_
 rintro T103 _ _ h103 X103 e103 ⟨rfl, N103q, hq103⟩
 replace e103 := e103.trans hq103
 have N103 := Fr.app N0 N103q
 refine yA (fun _ z_ => qA X103 (Q 8) rfl ((if0 _ _).trans (feq (by decide)).1) z_) ?_
 refine yL (qD X103 hZ (y := (⟨sN13, "of", "()Ljava/util/List;"⟩ : MethodName)) hown (W 163) (W 164) (W 140) (W 165) 0 (of0 hw bE O0 E0) e103 (by decide) rfl (hM rfl) [] (rest := []) pd60 rfl rfl rfl rfl rfl (Q 9)) ?_
 rintro T104 _ _ h104 X104 e104 ⟨rfl, N104q, hq104⟩
 replace e104 := e104.trans hq104
 have N104 := Fr.app N103 N104q
 exact yW X104 hlk e104 hret rfl (uA rfl rfl) (Q 10) (by decide) ⟨N104, bE, bE, rfl, (Keep.refl h0 []), (fun w_ g_ l_ => by have q_ := o_l E0.2.1.lt; omega), (by rw [hne]; exact E0)⟩
abbrev lcNR : Room := { frames := 7, cells := 3, slots := 15, locals := 90 }
theorem lcN (hw : yQ a0 Z) (a1 y1 mr em bE : Nat) (rs : List Nat) (O0 : Old Z n0 h0) (MM : o_MM Z sN8 mr) (EM : o_EM Z em) (E0 : o_E0 Z bE) (hrl : rs.length ≤ 3) (ER : ∀ r ∈ rs, Exa Z h0 r sN2) (hr : ∀ r ∈ rs, n0 ≤ r) (S1 : o_AL Z h0 a1 y1 rs) (hne : rs ≠ []) :
 yZ l Z mN34 jdk_56_method_3_code 2 (some (.object sN13)) [] lcNR #[(.ref a1)] h0 (fun v h L => Fr n0 L ∧ ∃ b u : Nat, v = some (.ref b) ∧ Keep h0 h [] ∧ (∀ w : Nat, n0 ≤ w → w < h0.size → b ≠ w ∧ u ≠ w) ∧ o_LS Z h n0 b u rs) := by
 refine yK (plainFor_of_name pd55) ?_
 intro p e s m below meth c T0 X0 hx hby hml hZ hown hnm hret hlk e0
 have hM := @qK _ _ hml
 have W := qC hw
 have Q := @yR p c _ _ _ hx hby d27
 have N0 := Fr.nil n0
 have zO := yM O0
 have la1 := S1.lt
 have FZ := S1.size
 have zz0 : Z.heap.size = n0 := O0.1
 refine yP 1 rfl rfl ?_
 refine yG m 0 #[rv a1, .unset] [] ?_
 refine yA (fun _ z_ => yC X0 (Q 0) rfl rfl z_) ?_
 refine yG m 1 #[rv a1, .unset] [(.ref a1)] ?_
 refine yO (instNo X0 hx hZ hown (W 146) e0 S1.1 (o_noIns3 (W 147) (W 148) (W 149) (W 150) (W 370) (by decide) (by decide) (by decide) (by decide)) rfl rfl (Q 1).2) ?_
 intro T101 X101 e101
 refine yA (fun _ z_ => qA X101 (Q 2) rfl ((if0 _ _).trans (teq (by decide)).2) (yC X101 (Q 3) rfl rfl z_)) ?_
 refine yO (instNo X101 hx hZ hown (W 151) e101 S1.1 (o_noIns3 (W 147) (W 148) (W 149) (W 150) (W 533) (by decide) (by decide) (by decide) (by decide)) rfl rfl (Q 4).2) ?_
 intro T102 X102 e102
 refine yA (fun _ z_ => qF X102 11 31 rfl (Q 5) rfl ((if0 _ _).trans (teq (by decide)).1) (by decide) (yC X102 (Q 6) rfl rfl z_)) ?_
 refine yL (o_cF X102 hZ (y := (⟨"java/util/Collection", "isEmpty", "()Z"⟩ : MethodName)) (z := mN32) hown (W 152) (W 153) (mvT hZ (W 154)) (W 155) (W 156) (W 157) (W 158) (W 159) (W 160) (W 92) 0 (ie0 hw a1 rs.length O0 (fun q => hne (List.length_eq_zero_iff.mp q)) (by omega) FZ) e102 S1.1 (by decide) rfl (hM rfl) [] (rest := []) pd16 rfl rfl rfl rfl rfl (Q 7)) ?_
 rintro T103 _ _ h103 X103 e103 ⟨rfl, N103q, hq103⟩
 replace e103 := e103.trans hq103
 have N103 := Fr.app N0 N103q
 refine yA (fun _ z_ => qF X103 37 44 rfl (Q 8) rfl ((if0 _ _).trans (teq (by decide)).1) (by decide) (yC X103 (Q 11) rfl rfl z_)) ?_
 refine yL (o_cF X103 hZ (y := (⟨"java/util/Collection", "toArray", sN19⟩ : MethodName)) (z := (⟨sN7, "toArray", sN19⟩ : MethodName)) hown (W 344) (W 345) (mvT hZ (W 346)) (W 347) (W 348) (W 349) (W 350) (W 159) (W 351) (W 92) 0 (taW hw a1 y1 mr rs O0 MM (by omega) hne ER S1) e103 S1.1 (by decide) rfl (hM rfl) [] (rest := []) pd44 rfl rfl rfl rfl rfl (Q 12)) ?_
 rintro T104 _ _ h104 X104 e104 ⟨N104q, b104, k104, rfl, K104, zb104, zc104, V104⟩
 have zK104 := K104.1
 have N104 := Fr.app N103 N104q
 have O105 : Old Z n0 h104 := O0.keep K104 all0
 refine yL (qD X104 hZ (y := mN23) hown (W 366) (W 367) (W 140) (W 368) 0 (ofA hw b104 em _ rs O105 EM hne hrl (fun r hr => (ER r hr).keep K104) hr V104) e104 (by decide) rfl (hM rfl) [(.ref b104)] (rest := []) pd59 rfl rfl rfl rfl rfl (Q 13)) ?_
 rintro T106 _ _ h106 X106 e106 ⟨N106q, b106, u106, rfl, K106, hb106, S106⟩
 have zK106 := K106.1
 have N106 := Fr.app N104 N106q
 have KK107 := yI (yI (Keep.refl h0 []) K104) K106
 exact yW X106 hlk e106 hret rfl (uA rfl rfl) (Q 14) (by decide) ⟨N106, b106, u106, rfl, KK107, (fun w_ g_ l_ => hb106 w_ g_ (by omega)), S106⟩
theorem lcA (hw : yQ a0 Z) (a1 y1 mr em bE : Nat) (rs : List Nat) (O0 : Old Z n0 h0) (MM : o_MM Z sN8 mr) (EM : o_EM Z em) (E0 : o_E0 Z bE) (hrl : rs.length ≤ 3) (ER : ∀ r ∈ rs, Exa Z h0 r sN2) (hr : ∀ r ∈ rs, n0 ≤ r) (S1 : o_AL Z h0 a1 y1 rs) :
 yZ l Z mN34 jdk_56_method_3_code 2 (some (.object sN13)) [] lc0R #[.ref a1] h0 (fun v h L => Fr n0 L ∧ ∃ b u : Nat, v = some (.ref b) ∧ Keep h0 h [] ∧ (∀ w : Nat, n0 ≤ w → w < h0.size → b ≠ w ∧ u ≠ w) ∧ o_LS Z h n0 b u rs) := by
 by_cases hne : rs = []
 · exact lc0 hw a1 y1 mr em bE rs O0 MM EM E0 hrl ER hr S1 hne
 · exact lcN hw a1 y1 mr em bE rs O0 MM EM E0 hrl ER hr S1 hne
theorem d26 : yX jdk_40_method_48_code [(0, .aload_n 0, 1), (1, .invokestatic 112, 3), (4, .areturn, 1)] := by decide +kernel
theorem pd61 : parseMethodDescriptor "(Ljava/util/Collection;)Ljava/util/List;" = some ⟨[(.object "java/util/Collection")], some (.object sN13)⟩ := by decide +kernel
abbrev cpOR : Room := { frames := 8, cells := 3, slots := 15, locals := 103 }
theorem cpO (hw : yQ a0 Z) (a1 y1 mr em bE : Nat) (rs : List Nat) (O0 : Old Z n0 h0) (MM : o_MM Z sN8 mr) (EM : o_EM Z em) (E0 : o_E0 Z bE) (hrl : rs.length ≤ 3) (ER : ∀ r ∈ rs, Exa Z h0 r sN2) (hr : ∀ r ∈ rs, n0 ≤ r) (S1 : o_AL Z h0 a1 y1 rs) :
 yZ l Z (⟨sN13, "copyOf", "(Ljava/util/Collection;)Ljava/util/List;"⟩ : MethodName) jdk_40_method_48_code 1 (some (.object sN13)) [] cpOR #[(.ref a1)] h0 (fun v h L => Fr n0 L ∧ ∃ b u : Nat, v = some (.ref b) ∧ Keep h0 h [] ∧ (∀ w : Nat, n0 ≤ w → w < h0.size → b ≠ w ∧ u ≠ w) ∧ o_LS Z h n0 b u rs) := by
 refine yK (plainFor_of_name pd57) ?_
 intro p e s m below meth c T0 X0 hx hby hml hZ hown hnm hret hlk e0
 have hM := @qK _ _ hml
 have W := qC hw
 have Q := @yR p c _ _ _ hx hby d26
 have N0 := Fr.nil n0
 have zO := yM O0
 have la1 := S1.lt
 refine yP 0 rfl rfl ?_
 refine yG m 0 #[rv a1] [] ?_
 refine yA (fun _ z_ => yC X0 (Q 0) rfl rfl z_) ?_
 refine yL (qD X0 hZ (y := mN34) hown (W 142) (W 143) (W 144) (W 145) 0 (lcA hw a1 y1 mr em bE rs O0 MM EM E0 hrl ER hr S1) e0 (by decide) rfl (hM rfl) [(.ref a1)] (rest := []) pd61 rfl rfl rfl rfl rfl (Q 1)) ?_
 rintro T101 _ _ h101 X101 e101 ⟨N101q, b101, u101, rfl, K101, hb101, S101⟩
 have zK101 := K101.1
 have N101 := Fr.app N0 N101q
 exact yW X101 hlk e101 hret rfl (uA rfl rfl) (Q 2) (by decide) ⟨N101, b101, u101, rfl, K101, hb101, S101⟩
theorem d25 : yX jdk_30_method_1_code [(0, .aload_n 0, 1), (1, .invokespecial 1, 3), (4, .return_, 1)] := by decide +kernel
theorem pd62 : plainName "java/lang/Record" = true := by first | (simp [plainName, overriddenIn]; done) | decide +kernel
abbrev rcIR : Room := { frames := 1, cells := 0, slots := 0, locals := 12 }
theorem rcI (hw : yQ a0 Z) (a1 : Nat) (O0 : Old Z n0 h0)  :
 yZ l Z (⟨"java/lang/Record", "<init>", "()V"⟩ : MethodName) jdk_30_method_1_code 1 none [] rcIR #[(.ref a1)] h0 (fun v h L => v = none ∧ Fr n0 L ∧ h = h0) := by
 refine yK (plainFor_of_name pd62) ?_
 intro p e s m below meth c T0 X0 hx hby hml hZ hown hnm hret hlk e0
 have hM := @qK _ _ hml
 have W := qC hw
 have Q := @yR p c _ _ _ hx hby d25
 have N0 := Fr.nil n0
 have zO := yM O0
 refine yP 0 rfl rfl ?_
 refine yG m 0 #[rv a1] [] ?_
 refine yA (fun _ z_ => yC X0 (Q 0) rfl rfl z_) ?_
 refine yO (initO X0 hx hZ hown (W 137) (W 19) (W 20) e0 rfl (hM rfl) rfl (Q 1).2 (by decide) (W := 0) (qE rfl rfl) (by decide)) ?_
 intro T101 X101 e101
 exact uG X101 hlk e101 hret (Q 2) (by decide) ⟨rfl, N0, rfl⟩
theorem d24 : yX prog_5_method_1_code [(0, .aload_n 0, 1), (1, .invokespecial 1, 3), (4, .aload_n 2, 1), (5, .invokestatic 7, 3), (8, .astore_n 2, 1), (9, .aload_n 0, 1), (10, .iload_n 1, 1), (11, .putfield 13, 3), (14, .aload_n 0, 1), (15, .aload_n 2, 1), (16, .putfield 19, 3), (19, .aload_n 0, 1), (20, .aload_n 3, 1), (21, .putfield 23, 3), (24, .return_, 1)] := by decide +kernel
theorem pd63 : plainName sN3 = true := by first | (simp [plainName, overriddenIn]; done) | decide +kernel
theorem ef_riA (m : MethodId) (x0 : Addr) (x1 : Int32) (x2 : Addr) (x3 : Value) (hx3 : x3.isRef = true) : entryFrame m #[(.ref x0), (.int x1), (.ref x2), x3] 4 = mkF m 0 #[rv x0, iv x1, rv x2, .val x3] [] := by rcases ref_cases hx3 with rfl | ⟨_, rfl⟩ <;> (first | (simp [entryFrame, mkF, argsToLocals, Value.category]; done) | rfl)
abbrev riAR : Room := { frames := 9, cells := 3, slots := 15, locals := 115 }
theorem riA (hw : yQ a0 Z) (a1 a2 y2 mr em bE : Nat) (rs : List Nat) (ln : Int32) (fv : Value) (v1 v2 v3 : Value) (O0 : Old Z n0 h0) (MM : o_MM Z sN8 mr) (EM : o_EM Z em) (E0 : o_E0 Z bE) (hfv : fv.isRef = true) (g1 : n0 ≤ a1) (d1 : a1 ≠ a2) (d2 : a1 ≠ y2) (hrl : rs.length ≤ 3) (ER : ∀ r ∈ rs, Exa Z h0 r sN2) (hr : ∀ r ∈ rs, n0 ≤ r) (S1 : o_AL Z h0 a2 y2 rs) (E1 : Exa Z h0 a1 sN3) (F1 : Fld Z h0 a1 sN3 "line" "I" v1) (F2 : Fld Z h0 a1 sN3 "fields" sN22 v2) (F3 : Fld Z h0 a1 sN3 "fault" sN9 v3) :
 yZ l Z mN24 prog_5_method_1_code 4 none [] riAR #[(.ref a1), (.int ln), (.ref a2), fv] h0 (fun v h L => v = none ∧ Fr n0 L ∧ Keep h0 h [a1] ∧ o_Row Z h n0 a1 ln rs fv) := by
 refine yK (plainFor_of_name pd63) ?_
 intro p e s m below meth c T0 X0 hx hby hml hZ hown hnm hret hlk e0
 have hM := @qK _ _ hml
 have W := qC hw
 have Q := @yR p c _ _ _ hx hby d24
 have N0 := Fr.nil n0
 have zO := yM O0
 have la1 : a1 < h0.size := E1.lt
 have la2 := S1.lt
 refine yA (fun _ z_ => castTop (ef_riA m a1 ln a2 fv hfv) (yC X0 (Q 0) rfl rfl z_)) ?_
 refine yG m 1 #[rv a1, iv ln, rv a2, .val fv] [(.ref a1)] ?_
 refine yL (o_cI X0 hZ (y := (⟨"java/lang/Record", "<init>", "()V"⟩ : MethodName)) rfl hown (W 132) (W 133) (W 136) (W 135) 0 (rcI hw a1 O0) e0 (by decide) rfl (hM rfl) (a := a1) [] (rest := []) pd33 rfl rfl rfl rfl rfl (Q 1)) ?_
 rintro T101 _ _ h101 X101 e101 ⟨rfl, N101q, hq101⟩
 replace e101 := e101.trans hq101
 have N101 := Fr.app N0 N101q
 refine yA (fun _ z_ => yC X101 (Q 2) rfl rfl z_) ?_
 refine yL (qD X101 hZ (y := (⟨sN13, "copyOf", "(Ljava/util/Collection;)Ljava/util/List;"⟩ : MethodName)) hown (W 138) (W 139) (W 140) (W 141) 0 (cpO hw a2 y2 mr em bE rs O0 MM EM E0 hrl ER hr S1) e101 (by decide) rfl (hM rfl) [(.ref a2)] (rest := []) pd61 rfl rfl rfl rfl rfl (Q 3)) ?_
 rintro T102 _ _ h102 X102 e102 ⟨N102q, b102, u102, rfl, K102, hb102, S102⟩
 have zK102 := K102.1
 have N102 := Fr.app N101 N102q
 have hba := hb102 a1 g1 (by omega)
 refine yA (fun _ z_ => XS.astoreN X102.here hx rfl (Q 4).2 rfl rfl rfl (yC X102 (Q 5) rfl rfl (yE X102 (Q 6) rfl z_))) ?_
 have f103 := (F1.keep K102 nin0)
 have f104 := (E1.keep K102)
 refine qL (putF X102 hx hZ hown (host := "") (Or.inl (W 167)) Via.refl e102 f103 f104 (Or.inr ⟨(W 168), rfl, hnm⟩) (W 127) (ty := .int) (by decide) rfl rfl rfl rfl (Q 7).2) ?_
 intro T105 h105 X105 e105 W105
 have F105 := f103.same W105
 have K105 := Keep.of_wr W105
 have N105 := Fr.snoc X105 N102 (by omega : n0 ≤ a1)
 have zK105 := K105.1
 refine yA (fun _ z_ => yC X105 (Q 8) rfl rfl (yC X105 (Q 9) rfl rfl z_)) ?_
 have KK106 := yF (yI (Keep.refl h0 [a1]) K102) K105
 have f107 := ((F2.keep K102 nin0).other W105 (yS (Or.inr (W 170)) (Or.inr (W 168)) (by decide)))
 have f108 := (f104.keep K105)
 refine qL (putF X105 hx hZ hown (host := "") (Or.inl (W 169)) Via.refl e105 f107 f108 (Or.inr ⟨(W 170), rfl, hnm⟩) (W 127) (ty := (.object sN13)) (by decide) rfl rfl rfl rfl (Q 10).2) ?_
 intro T109 h109 X109 e109 W109
 have F109 := f107.same W109
 have K109 := Keep.of_wr W109
 have N109 := Fr.snoc X109 N105 (by omega : n0 ≤ a1)
 have zK109 := K109.1
 refine yA (fun _ z_ => yC X109 (Q 11) rfl rfl (yC X109 (Q 12) rfl hfv z_)) ?_
 have KK110 := yF (yF (yI (Keep.refl h0 [a1]) K102) K105) K109
 have f111 := (((F3.keep K102 nin0).other W105 (yS (Or.inr (W 172)) (Or.inr (W 168)) (by decide))).other W109 (yS (Or.inr (W 172)) (Or.inr (W 170)) (by decide)))
 have f112 := (f108.keep K109)
 refine qL (putF X109 hx hZ hown (host := "") (Or.inl (W 171)) Via.refl e109 f111 f112 (Or.inr ⟨(W 172), rfl, hnm⟩) (W 127) (ty := (.object sN2)) (by decide) (by rcases ref_cases hfv with h_ | ⟨_, h_⟩ <;> rw [h_] <;> rfl) (by rcases ref_cases hfv with h_ | ⟨_, h_⟩ <;> rw [h_] <;> rfl) rfl rfl (Q 13).2) ?_
 intro T113 h113 X113 e113 W113
 have F113 := f111.same W113
 have K113 := Keep.of_wr W113
 have N113 := Fr.snoc X113 N109 (by omega : n0 ≤ a1)
 have zK113 := K113.1
 have KK114 := yF (yF (yF (yI (Keep.refl h0 [a1]) K102) K105) K109) K113
 have f115 := (f112.keep K113)
 have KK116 := yF (yF (Keep.refl h105 [a1]) K109) K113
 have f117 := ((F105.other W109 (yS (Or.inr (W 168)) (Or.inr (W 170)) (by decide))).other W113 (yS (Or.inr (W 168)) (Or.inr (W 172)) (by decide)))
 have f118 := (F109.other W113 (yS (Or.inr (W 170)) (Or.inr (W 172)) (by decide)))
 have KK119 := yF (yF (yF (Keep.refl h102 [a1]) K105) K109) K113
 have f120 := (o_LS.keep KK119 (yB (by omega) nin0) (yB (by omega) nin0) S102)
 exact uG X113 hlk e113 hret (Q 14) (by decide) ⟨rfl, N113, KK114, f115, f117, F113, b102, u102, f118, f120⟩
def o_uq (cs : List Int32) : Nat → Nat → Nat
 | 0, a => a
 | n + 1, a => if a < cs.length ∧ ¬ qX cs a 44 ∧ ¬ qR cs a then o_uq cs n (a + 1) else a
def uT (cs : List Int32) (a : Nat) : Nat := o_uq cs (cs.length - a + 1) a
theorem o_ueS {cs : List Int32} {u : Nat} (h1 : u < cs.length) (h2 : ¬ qX cs u 44) (h3 : ¬ qR cs u) : uT cs u = uT cs (u + 1) := by
 unfold uT
 rw [show cs.length - u + 1 = (cs.length - (u + 1) + 1) + 1 from by omega, o_uq, if_pos ⟨h1, h2, h3⟩]
theorem o_ueE {cs : List Int32} {u : Nat} (h : ¬ (u < cs.length ∧ ¬ qX cs u 44 ∧ ¬ qR cs u)) : uT cs u = u := by
 unfold uT
 rw [o_uq, if_neg h]
theorem o_uqL (cs : List Int32) : ∀ (n u : Nat), u ≤ cs.length → u ≤ o_uq cs n u ∧ o_uq cs n u ≤ cs.length
 | 0, u, h => ⟨Nat.le_refl _, h⟩
 | n + 1, u, h => by
  rw [o_uq]; split
  · rename_i q; have := o_uqL cs n (u + 1) q.1; omega
  · omega
theorem o_ueL {cs : List Int32} {u : Nat} (h : u ≤ cs.length) : u ≤ uT cs u ∧ uT cs u ≤ cs.length := o_uqL cs _ u h
def o_qt (cs : List Int32) : Nat → Nat → Nat → List Int32 × Nat × Nat × Bool
 | 0, a, ln => ([], a, ln, false)
 | 1, a, ln => ([], a, ln, false)
 | n + 2, a, ln => if a < cs.length then (if (34 : Int32) = cs.getD a 0 then (if qX cs (a + 1) 34 then (cs.getD a 0 :: (o_qt cs n (a + 2) ln).1, (o_qt cs n (a + 2) ln).2) else ([], a + 1, ln, true)) else (cs.getD a 0 :: (o_qt cs (n + 1) (a + 1) (if (10 : Int32) = cs.getD a 0 then ln + 1 else ln)).1, (o_qt cs (n + 1) (a + 1) (if (10 : Int32) = cs.getD a 0 then ln + 1 else ln)).2)) else ([], a, ln, false)
def qW (cs : List Int32) (a ln : Nat) : List Int32 × Nat × Nat × Bool := o_qt cs (cs.length - a + 1) a ln
theorem o_qeE {cs : List Int32} {u ln : Nat} (h : ¬ u < cs.length) : qW cs u ln = ([], u, ln, false) := by
 unfold qW
 rw [show cs.length - u + 1 = 1 from by omega]; rfl
theorem o_qeC {cs : List Int32} {u ln : Nat} (h1 : u < cs.length) (h2 : (34 : Int32) = cs.getD u 0) (h3 : ¬ qX cs (u + 1) 34) : qW cs u ln = ([], u + 1, ln, true) := by
 unfold qW
 rw [show cs.length - u + 1 = (cs.length - u - 1) + 2 from by omega, o_qt, if_pos h1, if_pos h2, if_neg h3]
theorem o_qeD {cs : List Int32} {u ln : Nat} (h1 : u < cs.length) (h2 : (34 : Int32) = cs.getD u 0) (h3 : qX cs (u + 1) 34) : qW cs u ln = (cs.getD u 0 :: (qW cs (u + 1 + 1) ln).1, (qW cs (u + 1 + 1) ln).2) := by
 have h4 := h3.1
 unfold qW
 rw [show cs.length - u + 1 = (cs.length - u - 1) + 2 from by omega, o_qt, if_pos h1, if_pos h2, if_pos h3, show cs.length - (u + 1 + 1) + 1 = cs.length - u - 1 from by omega]
theorem o_qeN {cs : List Int32} {u ln ln' : Nat} (h1 : u < cs.length) (h2 : ¬ (34 : Int32) = cs.getD u 0) (h3 : (if (10 : Int32) = cs.getD u 0 then ln + 1 else ln) = ln') : qW cs u ln = (cs.getD u 0 :: (qW cs (u + 1) ln').1, (qW cs (u + 1) ln').2) := by
 unfold qW
 rw [show cs.length - u + 1 = (cs.length - u - 1) + 2 from by omega, o_qt, if_pos h1, if_neg h2, h3, show cs.length - (u + 1) + 1 = cs.length - u - 1 + 1 from by omega]
theorem o_qeM (cs : List Int32) : ∀ (k u ln : Nat), cs.length - u ≤ k → ∀ c ∈ (qW cs u ln).1, c ∈ cs := by
 intro k
 induction k using Nat.strongRecOn with
 | _ k ih =>
  intro u ln hk c hc
  by_cases h1 : u < cs.length
  · have hm : cs.getD u 0 ∈ cs := by rw [List.getD_eq_getElem?_getD, List.getElem?_eq_getElem h1]; exact List.getElem_mem h1
    by_cases h2 : (34 : Int32) = cs.getD u 0
    · by_cases h3 : qX cs (u + 1) 34
      · rw [o_qeD h1 h2 h3] at hc
        rcases List.mem_cons.mp hc with e | e
        · rw [e]; exact hm
        · exact ih (cs.length - (u + 1 + 1)) (by omega) _ ln (Nat.le_refl _) c e
      · rw [o_qeC h1 h2 h3] at hc; exact nomatch hc
    · rw [o_qeN h1 h2 rfl] at hc
      rcases List.mem_cons.mp hc with e | e
      · rw [e]; exact hm
      · exact ih (cs.length - (u + 1)) (by omega) _ _ (Nat.le_refl _) c e
  · rw [o_qeE h1] at hc; exact nomatch hc
theorem o_qeL (cs : List Int32) : ∀ (k u ln : Nat), cs.length - u ≤ k → u ≤ cs.length → u ≤ (qW cs u ln).2.1 ∧ (qW cs u ln).2.1 ≤ cs.length ∧ ln ≤ (qW cs u ln).2.2.1 ∧ (qW cs u ln).2.2.1 ≤ ln + (cs.length - u) := by
 intro k
 induction k using Nat.strongRecOn with
 | _ k ih =>
  intro u ln hk hu
  by_cases h1 : u < cs.length
  · by_cases h2 : (34 : Int32) = cs.getD u 0
    · by_cases h3 : qX cs (u + 1) 34
      · have h4 := h3.1
        have := ih (cs.length - (u + 1 + 1)) (by omega) (u + 1 + 1) ln (Nat.le_refl _) (by omega)
        rw [o_qeD h1 h2 h3]; dsimp only; omega
      · rw [o_qeC h1 h2 h3]; dsimp only; omega
    · obtain ⟨ln', e⟩ : ∃ l, (if (10 : Int32) = cs.getD u 0 then ln + 1 else ln) = l := ⟨_, rfl⟩
      have hl : ln ≤ ln' ∧ ln' ≤ ln + 1 := by rw [← e]; split <;> omega
      have := ih (cs.length - (u + 1)) (by omega) (u + 1) ln' (Nat.le_refl _) (by omega)
      rw [o_qeN h1 h2 e]; dsimp only; omega
  · rw [o_qeE h1]; dsimp only; omega
def o_cw (cl sl : Nat) (d : List Int32) : Prop := (cl = 0 ∧ sl = 0) ∨ ∃ c ∈ d, (255 : Int32) < c
theorem o_cwS {cl sl : Nat} {d : List Int32} (h : o_cw cl sl d) (c : Int32) : (cl = 0 ∧ sl = 0 ∧ (∀ x ∈ d, ¬ (255 : Int32) < x) ∧ (255 : Int32) < c) ∨ ((∃ x ∈ d, (255 : Int32) < x) ∨ ¬ (255 : Int32) < c) := by
 by_cases q : (255 : Int32) < c
 · by_cases q' : ∃ x ∈ d, (255 : Int32) < x
   · exact Or.inr (Or.inl q')
   · rcases h with ⟨h1, h2⟩ | h
     · exact Or.inl ⟨h1, h2, fun x hx r => q' ⟨x, hx, r⟩, q⟩
     · exact absurd h q'
 · exact Or.inr (Or.inr q)
theorem o_cwN {cl sl : Nat} {d : List Int32} (h : o_cw cl sl d) (c : Int32) : o_cw cl sl (d ++ [c]) := h.imp id fun ⟨x, q1, q2⟩ => ⟨x, List.mem_append_left _ q1, q2⟩
theorem d37 : yX prog_4_method_6_code [(0, .aload_n 0, 1), (1, .getfield 28, 3), (4, .istore_n 2, 1), (5, .aload_n 0, 1), (6, .getfield 28, 3), (9, .aload_n 0, 1), (10, .getfield 13, 3), (13, .invokevirtual 69, 3), (16, .if_icmp .ge 32, 3), (19, .aload_n 0, 1), (20, .bipush 44, 2), (22, .invokevirtual 83, 3), (25, .ifCond .ne 23, 3), (28, .aload_n 0, 1), (29, .invokevirtual 97, 3), (32, .ifCond .ne 16, 3), (35, .aload_n 0, 1), (36, .dup, 1), (37, .getfield 28, 3), (40, .iconst 1, 1), (41, .iadd, 1), (42, .putfield 28, 3), (45, .goto (-40), 3), (48, .aload_n 1, 1), (49, .aload_n 0, 1), (50, .getfield 13, 3), (53, .iload_n 2, 1), (54, .aload_n 0, 1), (55, .getfield 28, 3), (58, .invokevirtual 106, 3), (61, .pop, 1), (62, .return_, 1)] := by decide +kernel
theorem pd64 : parseMethodDescriptor "(Ljava/lang/CharSequence;II)Ljava/lang/StringBuilder;" = some ⟨[(.object "java/lang/CharSequence"), .int, .int], some (.object sN14)⟩ := by decide +kernel
abbrev uqWR : Room := { frames := 9, cells := 1, slots := 40, locals := 139 }
theorem uqW (hw : yQ a0 Z) (a1 t1 tb a2 b2 : Nat) (kb : ClassId) (cs ds : List Int32) (a ln : Nat) (O0 : Old Z n0 h0) (CS : uE Z) (FM : uQ Z) (FI : o_FMI Z) (UT : uB Z) (hk : cs.length ≤ 20) (ha : a ≤ cs.length) (hln : ln ≤ 900) (g1 : n0 ≤ a1) (g2 : n0 ≤ a2) (g3 : n0 ≤ b2) (d1 : a1 ≠ a2) (d2 : a1 ≠ b2) (d3 : t1 ≠ a1) (d4 : t1 ≠ a2) (d5 : t1 ≠ b2) (d6 : tb ≠ a1) (d7 : tb ≠ a2) (d8 : tb ≠ b2) (E1 : Exa Z h0 a1 sN1) (F1 : Fld Z h0 a1 sN1 "m_text" sN9 (.ref t1)) (F2 : Fld Z h0 a1 sN1 "m_at" "I" (.int (ofNat a))) (F3 : Fld Z h0 a1 sN1 "m_line" "I" (.int (ofNat ln))) (S1 : yU Z h0 t1 tb cs) (S2 : uM Z h0 a2 b2 kb ds) (hl : ds.length + (uT cs a - a) ≤ 16) (hsub : (∃ c ∈ ds, (255 : Int32) < c) → ∃ c ∈ cs, (255 : Int32) < c) :
 yZ l Z mN54 prog_4_method_6_code 3 none [] uqWR #[(.ref a1), (.ref a2)] h0 (fun v h L => v = none ∧ Fr n0 L ∧ Keep h0 h [a1, a2, b2] ∧ Exa Z h a1 sN1 ∧ Fld Z h a1 sN1 "m_text" sN9 (.ref t1) ∧ Fld Z h a1 sN1 "m_at" "I" (.int (ofNat (uT cs a))) ∧ Fld Z h a1 sN1 "m_line" "I" (.int (ofNat ln)) ∧ ∃ (b' : Nat) (kb' : ClassId), (b' = b2 ∨ h0.size ≤ b') ∧ uM Z h a2 b' kb' ((ds ++ (cs.drop a).take (uT cs a - a)))) := by
 refine yK (plainFor_of_name pd21) ?_
 intro p e s m below meth c T0 X0 hx hby hml hZ hown hnm hret hlk e0
 have hM := @qK _ _ hml
 have W := qC hw
 have Q := @yR p c _ _ _ hx hby d37
 have N0 := Fr.nil n0
 have zO := yM O0
 have la1 := o_l E1.lt
 have hlt1 := S1.lt
 have hlt2 := S2.lt
 have hbT : ∀ c ∈ cs, ¬ c < 0 ∧ ¬ (65535 : Int32) < c := by obtain ⟨-, _, _, _, _, -, -, -, -, q, -⟩ := id S1; exact q
 refine yP 1 rfl rfl ?_
 refine yG m 0 #[rv a1, rv a2, .unset] [] ?_
 refine yA (fun _ z_ => yC X0 (Q 0) rfl rfl z_) ?_
 refine yO (yV X0 hZ hown (W 73) e0 F2 rfl rfl (Q 1)) ?_
 intro T101 X101 e101
 refine yA (fun _ z_ => XS.istoreN X101.here hx rfl (Q 2).2 rfl rfl z_) ?_
 suffices G102 : ∀ (r : Nat) (Tj : State) (Lj : List Loc) (hL102 : Heap) (u : Nat), (cs.length - u = r) → (Keep h0 hL102 [a1]) → (Fld Z hL102 a1 sN1 "m_text" sN9 (.ref t1)) → (Fld Z hL102 a1 sN1 "m_at" "I" (.int (ofNat u))) → (Fld Z hL102 a1 sN1 "m_line" "I" (.int (ofNat ln))) → (a ≤ u ∧ u ≤ cs.length) → (uT cs u = uT cs a) → Stand p l e uqWR s m #[(.ref a1), (.ref a2)] below meth c Tj Lj 0 0 → Tj.heap = hL102 → Fr n0 Lj → uR p e below s (fun v h L => v = none ∧ Fr n0 L ∧ Keep h0 h [a1, a2, b2] ∧ Exa Z h a1 sN1 ∧ Fld Z h a1 sN1 "m_text" sN9 (.ref t1) ∧ Fld Z h a1 sN1 "m_at" "I" (.int (ofNat (uT cs a))) ∧ Fld Z h a1 sN1 "m_line" "I" (.int (ofNat ln)) ∧ ∃ (b' : Nat) (kb' : ClassId), (b' = b2 ∨ h0.size ≤ b') ∧ uM Z h a2 b' kb' ((ds ++ (cs.drop a).take (uT cs a - a)))) uqWR.cells uqWR.slots (Tj.setTop (mkF m 5 #[rv a1, rv a2, iv (ofNat a)] [])) by
  exact G102 _ _ _ _ a rfl (Keep.refl _ _) F1 F2 F3 ⟨Nat.le_refl _, ha⟩ rfl X101 e101 N0
 intro r
 induction r using Nat.strongRecOn with
 | _ r ih =>
  intro TG102 LG102 hL102 u hm KL102 Lf0 Lf1 Lf2 hu hq XG102 eG102 NG102
  have zKL102 := KL102.1
  refine yA (fun _ z_ => yC XG102 (Q 3) rfl rfl z_) ?_
  refine yG m 6 #[rv a1, rv a2, iv (ofNat a)] [(.ref a1)] ?_
  refine yO (yV XG102 hZ hown (W 73) eG102 Lf1 rfl rfl (Q 4)) ?_
  intro T103 X103 e103
  refine yA (fun _ z_ => yC X103 (Q 5) rfl rfl z_) ?_
  refine yO (yV X103 hZ hown (W 43) e103 Lf0 rfl rfl (Q 6)) ?_
  intro T104 X104 e104
  have f105 := (S1.keep KL102 (yB (by omega) nin0) (yB (by omega) nin0))
  have O106 : Old Z n0 hL102 := O0.keep KL102 (allS (by omega) all0)
  have f108 := (S1.1.keep KL102)
  refine yL (qZ X104 hZ (y := mN5) hown (W 80) (W 81) (W 83) (W 82) (W 84) (W 10) 1 (sln hw t1 cs O106 CS hk (yU.str f105)) e104 f108 (by decide) rfl (hM rfl) [] (rest := [(.int (ofNat u))]) pd19 rfl rfl rfl rfl rfl (Q 7)) ?_
  rintro T107 _ _ h107 X107 e107 ⟨rfl, N107q, hq107⟩
  replace e107 := e107.trans hq107
  have N107 := Fr.app NG102 N107q
  by_cases c109 : (ofNat u) < (ofNat cs.length)
  · refine yA (fun _ z_ => qH X107 (Q 8) rfl (tlt c109).2.1 z_) ?_
    have hlt : u < cs.length := (qP (by omega) (by omega)).mp c109
    refine yA (fun _ z_ => yC X107 (Q 9) rfl rfl (yY X107 (Q 10) z_)) ?_
    have f110 := (E1.keep KL102)
    refine yL (o_cP X107 hZ (y := mN10) hown (W 122) (W 123) (o_NIi (W 6)) (W 124) (W 125) (W 7) 0 (atW hw a1 t1 cs u (44 : Int32) O106 CS FM UT hk (by omega) f110 Lf0 Lf1 (yU.str f105)) e107 f110 (by decide) rfl (hM rfl) [(.int (44 : Int32))] (rest := []) pd22 rfl rfl rfl rfl rfl (Q 11)) ?_
    rintro T111 _ _ h111 X111 e111 ⟨rfl, N111q, hq111⟩
    replace e111 := e111.trans hq111
    have N111 := Fr.app N107 N111q
    by_cases c112 : (if qX cs u (44 : Int32) then (1 : Int32) else 0) = (0 : Int32)
    · refine yA (fun _ z_ => qA X111 (Q 12) rfl ((if0 _ _).trans (teq c112).2) (yC X111 (Q 13) rfl rfl z_)) ?_
      refine yL (o_cP X111 hZ (y := mN20) hown (W 118) (W 119) (o_NIi (W 6)) (W 120) (W 121) (W 7) 0 (aeW hw a1 t1 cs u O106 CS FM UT hk (by omega) f110 Lf0 Lf1 (yU.str f105)) e111 f110 (by decide) rfl (hM rfl) [] (rest := []) pd16 rfl rfl rfl rfl rfl (Q 14)) ?_
      rintro T113 _ _ h113 X113 e113 ⟨rfl, N113q, hq113⟩
      replace e113 := e113.trans hq113
      have N113 := Fr.app N111 N113q
      by_cases c114 : (if qR cs u then (1 : Int32) else 0) = (0 : Int32)
      · refine yA (fun _ z_ => qA X113 (Q 15) rfl ((if0 _ _).trans (teq c114).2) (yC X113 (Q 16) rfl rfl (qJ X113 (Q 17) rfl rfl z_))) ?_
        refine yO (yV X113 hZ hown (W 73) e113 Lf1 rfl rfl (Q 18)) ?_
        intro T115 X115 e115
        refine yA (fun _ z_ => yH X115 (Q 19) (XS.iadd X115.here hx rfl (Q 20).2 rfl z_)) ?_
        refine yG m 42 #[rv a1, rv a2, iv (ofNat a)] [(.int ((ofNat u) + (1 : Int32))), (.ref a1)] ?_
        rw [show ((ofNat u) + (1 : Int32)) = (ofNat (u + 1)) from (uD (b := 1) (by omega))]
        refine qL (putF X115 hx hZ hown (host := "") (Or.inl (W 73)) Via.refl e115 Lf1 f110 (Or.inl (W 74)) (W 6) (ty := .int) (by decide) rfl rfl rfl rfl (Q 21).2) ?_
        intro T116 h116 X116 e116 W116
        have F116 := Lf1.same W116
        have K116 := Keep.of_wr W116
        have N116 := Fr.snoc X116 N113 (by omega : n0 ≤ a1)
        have zK116 := K116.1
        refine yA (fun _ z_ => yT X116 45 5 rfl (Q 22) (by decide) z_) ?_
        have f117 := (Lf0.other W116 (yS (Or.inr (W 44)) (Or.inl (W 74)) (by decide)))
        have f118 := (Lf2.other W116 (yS (Or.inl (W 42)) (Or.inl (W 74)) (by decide)))
        have KK119 := yF (yF (Keep.refl h0 [a1]) KL102) K116
        exact ih _ (by omega) _ _ _ (u + 1) rfl KK119 f117 F116 f118 ⟨by omega, hlt⟩ ((o_ueS hlt (o_ifF c112) (o_ifF c114)).symm.trans hq) X116 e116 N116
      · refine yA (fun _ z_ => qF X113 32 48 rfl (Q 15) rfl ((if0 _ _).trans (feq c114).2) (by decide) z_) ?_
        have hend : uT cs a = u := hq.symm.trans (o_ueE (fun q => q.2.2 (o_ifT c114)))
        refine yA (fun _ z_ => yC X113 (Q 23) rfl rfl (yC X113 (Q 24) rfl rfl z_)) ?_
        refine yO (yV X113 hZ hown (W 43) e113 Lf0 rfl rfl (Q 25)) ?_
        intro T120 X120 e120
        refine yA (fun _ z_ => yE X120 (Q 26) rfl (yC X120 (Q 27) rfl rfl z_)) ?_
        refine yO (yV X120 hZ hown (W 73) e120 Lf1 rfl rfl (Q 28)) ?_
        intro T121 X121 e121
        have f122 := (S2.keep KL102 (yB (by omega) nin0) (yB (by omega) nin0))
        have f124 := (S2.1.keep KL102)
        refine yL (qZ X121 hZ (y := mN30) hown (W 225) (W 226) (W 228) (W 227) (W 229) (W 205) 0 (scsW hw a2 b2 t1 tb kb ds cs a u O106 CS UT FM FI (by omega) (by omega) hu.1 hu.2 hk (by rw [hend] at hl; exact hl) hsub (by omega) (by omega) (by omega) (by omega) f122 f105) e121 f124 (by decide) rfl (hM rfl) [(.ref t1), (.int (ofNat a)), (.int (ofNat u))] (rest := []) pd64 rfl rfl rfl rfl rfl (Q 29)) ?_
        rintro T123 _ _ h123 X123 e123 ⟨rfl, N123q, K123, t123, kb123, zt123, S123⟩
        have zK123 := K123.1
        have N123 := Fr.app N113 N123q
        have ls123 := S123.lt
        have E123 := S123.1
        refine yA (fun _ z_ => XS.pop X123.here hx rfl (Q 30).2 rfl rfl z_) ?_
        have KK125 := uP (yF (Keep.refl h0 [a1, a2, b2]) KL102) K123
        have f126 := (f110.keep K123)
        have f127 := (Lf0.keep K123 (yB (by omega) (yB (by omega) nin0)))
        have f128 := (Lf1.keep K123 (yB (by omega) (yB (by omega) nin0)))
        have f129 := (Lf2.keep K123 (yB (by omega) (yB (by omega) nin0)))
        exact uG X123 hlk e123 hret (Q 31) (by decide) ⟨rfl, N123, KK125, f126, f127, (hend ▸ f128), f129, _, _, (by omega), (hend ▸ S123)⟩
    · refine yA (fun _ z_ => qF X111 25 48 rfl (Q 12) rfl ((if0 _ _).trans (feq c112).2) (by decide) z_) ?_
      have hend : uT cs a = u := hq.symm.trans (o_ueE (fun q => q.2.1 (o_ifT c112)))
      refine yA (fun _ z_ => yC X111 (Q 23) rfl rfl (yC X111 (Q 24) rfl rfl z_)) ?_
      refine yO (yV X111 hZ hown (W 43) e111 Lf0 rfl rfl (Q 25)) ?_
      intro T130 X130 e130
      refine yG m 53 #[rv a1, rv a2, iv (ofNat a)] [(.ref t1), (.ref a2)] ?_
      refine yA (fun _ z_ => yE X130 (Q 26) rfl (yC X130 (Q 27) rfl rfl z_)) ?_
      refine yO (yV X130 hZ hown (W 73) e130 Lf1 rfl rfl (Q 28)) ?_
      intro T131 X131 e131
      have f132 := (S2.keep KL102 (yB (by omega) nin0) (yB (by omega) nin0))
      have f134 := (S2.1.keep KL102)
      refine yL (qZ X131 hZ (y := mN30) hown (W 225) (W 226) (W 228) (W 227) (W 229) (W 205) 0 (scsW hw a2 b2 t1 tb kb ds cs a u O106 CS UT FM FI (by omega) (by omega) hu.1 hu.2 hk (by rw [hend] at hl; exact hl) hsub (by omega) (by omega) (by omega) (by omega) f132 f105) e131 f134 (by decide) rfl (hM rfl) [(.ref t1), (.int (ofNat a)), (.int (ofNat u))] (rest := []) pd64 rfl rfl rfl rfl rfl (Q 29)) ?_
      rintro T133 _ _ h133 X133 e133 ⟨rfl, N133q, K133, t133, kb133, zt133, S133⟩
      have zK133 := K133.1
      have N133 := Fr.app N111 N133q
      have ls133 := S133.lt
      have E133 := S133.1
      refine yA (fun _ z_ => XS.pop X133.here hx rfl (Q 30).2 rfl rfl z_) ?_
      have KK135 := uP (yF (Keep.refl h0 [a1, a2, b2]) KL102) K133
      have f136 := (f110.keep K133)
      have f137 := (Lf0.keep K133 (yB (by omega) (yB (by omega) nin0)))
      have f138 := (Lf1.keep K133 (yB (by omega) (yB (by omega) nin0)))
      have f139 := (Lf2.keep K133 (yB (by omega) (yB (by omega) nin0)))
      exact uG X133 hlk e133 hret (Q 31) (by decide) ⟨rfl, N133, KK135, f136, f137, (hend ▸ f138), f139, _, _, (by omega), (hend ▸ S133)⟩
  · refine yA (fun _ z_ => qG X107 16 48 rfl (Q 8) rfl (flt c109).2.1 (by decide) z_) ?_
    have hend : uT cs a = u := hq.symm.trans (o_ueE (fun q => c109 ((qP (by omega) (by omega)).mpr q.1)))
    refine yA (fun _ z_ => yC X107 (Q 23) rfl rfl (yC X107 (Q 24) rfl rfl z_)) ?_
    refine yO (yV X107 hZ hown (W 43) e107 Lf0 rfl rfl (Q 25)) ?_
    intro T140 X140 e140
    refine yA (fun _ z_ => yE X140 (Q 26) rfl (yC X140 (Q 27) rfl rfl z_)) ?_
    refine yO (yV X140 hZ hown (W 73) e140 Lf1 rfl rfl (Q 28)) ?_
    intro T141 X141 e141
    have f142 := (S2.keep KL102 (yB (by omega) nin0) (yB (by omega) nin0))
    have f144 := (S2.1.keep KL102)
    refine yL (qZ X141 hZ (y := mN30) hown (W 225) (W 226) (W 228) (W 227) (W 229) (W 205) 0 (scsW hw a2 b2 t1 tb kb ds cs a u O106 CS UT FM FI (by omega) (by omega) hu.1 hu.2 hk (by rw [hend] at hl; exact hl) hsub (by omega) (by omega) (by omega) (by omega) f142 f105) e141 f144 (by decide) rfl (hM rfl) [(.ref t1), (.int (ofNat a)), (.int (ofNat u))] (rest := []) pd64 rfl rfl rfl rfl rfl (Q 29)) ?_
    rintro T143 _ _ h143 X143 e143 ⟨rfl, N143q, K143, t143, kb143, zt143, S143⟩
    have zK143 := K143.1
    have N143 := Fr.app N107 N143q
    have ls143 := S143.lt
    have E143 := S143.1
    refine yA (fun _ z_ => XS.pop X143.here hx rfl (Q 30).2 rfl rfl z_) ?_
    have KK145 := uP (yF (Keep.refl h0 [a1, a2, b2]) KL102) K143
    have f146 := (E1.keep KK145)
    have f147 := (Lf0.keep K143 (yB (by omega) (yB (by omega) nin0)))
    have f148 := (Lf1.keep K143 (yB (by omega) (yB (by omega) nin0)))
    have f149 := (Lf2.keep K143 (yB (by omega) (yB (by omega) nin0)))
    exact uG X143 hlk e143 hret (Q 31) (by decide) ⟨rfl, N143, KK145, f146, f147, (hend ▸ f148), f149, _, _, (by omega), (hend ▸ S143)⟩
theorem d74 : yX prog_4_method_5_code [(0, .aload_n 0, 1), (1, .getfield 28, 3), (4, .aload_n 0, 1), (5, .getfield 13, 3), (8, .invokevirtual 69, 3), (11, .if_icmp .ge 80, 3), (14, .aload_n 0, 1), (15, .getfield 13, 3), (18, .aload_n 0, 1), (19, .getfield 28, 3), (22, .invokevirtual 24, 3), (25, .istore_n 2, 1), (26, .aload_n 0, 1), (27, .dup, 1), (28, .getfield 28, 3), (31, .iconst 1, 1), (32, .iadd, 1), (33, .putfield 28, 3), (36, .bipush 34, 2), (38, .iload_n 2, 1), (39, .if_icmp .ne 27, 3), (42, .aload_n 0, 1), (43, .bipush 34, 2), (45, .invokevirtual 83, 3), (48, .ifCond .ne 5, 3), (51, .iconst 1, 1), (52, .ireturn, 1), (53, .aload_n 0, 1), (54, .dup, 1), (55, .getfield 28, 3), (58, .iconst 1, 1), (59, .iadd, 1), (60, .putfield 28, 3), (63, .goto 19, 3), (82, .aload_n 1, 1), (83, .iload_n 2, 1), (84, .invokevirtual 44, 3), (87, .pop, 1), (88, .goto (-88), 3), (66, .bipush 10, 2), (68, .iload_n 2, 1), (69, .if_icmp .ne 13, 3), (72, .aload_n 0, 1), (73, .dup, 1), (74, .getfield 7, 3), (77, .iconst 1, 1), (78, .iadd, 1), (79, .putfield 7, 3), (91, .iconst 0, 1), (92, .ireturn, 1)] := by decide +kernel
theorem pd65 : parseMethodDescriptor "(C)Ljava/lang/StringBuilder;" = some ⟨[.char], some (.object sN14)⟩ := by decide +kernel
abbrev qtWR : Room := { frames := 8, cells := 1, slots := 40, locals := 115 }
theorem qtW (hw : yQ a0 Z) (a1 t1 tb a2 b2 : Nat) (kb : ClassId) (cs ds : List Int32) (a ln : Nat) (O0 : Old Z n0 h0) (CS : uE Z) (FM : uQ Z) (FI : o_FMI Z) (UT : uB Z) (hk : cs.length ≤ 20) (ha : a ≤ cs.length) (hln : ln ≤ 900) (g1 : n0 ≤ a1) (g2 : n0 ≤ a2) (g3 : n0 ≤ b2) (d1 : a1 ≠ a2) (d2 : a1 ≠ b2) (d3 : t1 ≠ a1) (d4 : t1 ≠ a2) (d5 : t1 ≠ b2) (d6 : tb ≠ a1) (d7 : tb ≠ a2) (d8 : tb ≠ b2) (E1 : Exa Z h0 a1 sN1) (F1 : Fld Z h0 a1 sN1 "m_text" sN9 (.ref t1)) (F2 : Fld Z h0 a1 sN1 "m_at" "I" (.int (ofNat a))) (F3 : Fld Z h0 a1 sN1 "m_line" "I" (.int (ofNat ln))) (S1 : yU Z h0 t1 tb cs) (S2 : uM Z h0 a2 b2 kb ds) (hl : (ds ++ (qW cs a ln).1).length ≤ 16) :
 yZ l Z (⟨sN1, "quoted", "(Ljava/lang/StringBuilder;)Z"⟩ : MethodName) prog_4_method_5_code 3 (some .boolean) [] qtWR #[(.ref a1), (.ref a2)] h0 (fun v h L => v = some (.int (if (qW cs a ln).2.2.2 then 1 else 0)) ∧ Fr n0 L ∧ Keep h0 h [a1, a2, b2] ∧ Exa Z h a1 sN1 ∧ Fld Z h a1 sN1 "m_text" sN9 (.ref t1) ∧ Fld Z h a1 sN1 "m_at" "I" (.int (ofNat (qW cs a ln).2.1)) ∧ Fld Z h a1 sN1 "m_line" "I" (.int (ofNat (qW cs a ln).2.2.1)) ∧ ∃ (b' : Nat) (kb' : ClassId), (b' = b2 ∨ h0.size ≤ b') ∧ uM Z h a2 b' kb' (ds ++ (qW cs a ln).1)) := by
 refine yK (plainFor_of_name pd21) ?_
 intro p e s m below meth c T0 X0 hx hby hml hZ hown hnm hret hlk e0
 have hM := @qK _ _ hml
 have W := qC hw
 have Q := @yR p c _ _ _ hx hby d74
 have N0 := Fr.nil n0
 have zO := yM O0
 have la1 := o_l E1.lt
 have hlt1 := S1.lt
 have hlt2 := S2.lt
 have hbT : ∀ c ∈ cs, ¬ c < 0 ∧ ¬ (65535 : Int32) < c := by obtain ⟨-, _, _, _, _, -, -, -, -, q, -⟩ := id S1; exact q
 refine yP 1 rfl rfl ?_
 refine yG m 0 #[rv a1, rv a2, .unset] [] ?_
 suffices G101 : ∀ (r : Nat) (Tj : State) (Lj : List Loc) (hL101 : Heap) (cl sl u lj bj : Nat) (kj : ClassId) (dj : List Int32) (sl2 : Slot), (cs.length - u = r) → (Keep h0 hL101 [a1, a2, b2]) → (Fld Z hL101 a1 sN1 "m_text" sN9 (.ref t1)) → (Fld Z hL101 a1 sN1 "m_at" "I" (.int (ofNat u))) → (Fld Z hL101 a1 sN1 "m_line" "I" (.int (ofNat lj))) → (uM Z hL101 a2 bj kj dj) → (cl ≤ 1 ∧ sl ≤ 40) → (o_cw cl sl dj) → (bj = b2 ∨ Array.size h0 ≤ bj) → (u ≤ cs.length) → (lj ≤ 900 + u) → (dj ++ (qW cs u lj).1 = ds ++ (qW cs a ln).1) → ((qW cs u lj).2 = (qW cs a ln).2) → (sl2 = .unset ∨ ∃ w, sl2 = .val w ∧ w.category = 1) → Stand p l e qtWR s m #[(.ref a1), (.ref a2)] below meth c Tj Lj cl sl → Tj.heap = hL101 → Fr n0 Lj → uR p e below s (fun v h L => v = some (.int (if (qW cs a ln).2.2.2 then 1 else 0)) ∧ Fr n0 L ∧ Keep h0 h [a1, a2, b2] ∧ Exa Z h a1 sN1 ∧ Fld Z h a1 sN1 "m_text" sN9 (.ref t1) ∧ Fld Z h a1 sN1 "m_at" "I" (.int (ofNat (qW cs a ln).2.1)) ∧ Fld Z h a1 sN1 "m_line" "I" (.int (ofNat (qW cs a ln).2.2.1)) ∧ ∃ (b' : Nat) (kb' : ClassId), (b' = b2 ∨ h0.size ≤ b') ∧ uM Z h a2 b' kb' (ds ++ (qW cs a ln).1)) qtWR.cells qtWR.slots (Tj.setTop (mkF m 0 #[rv a1, rv a2, sl2] [])) by
  exact G101 _ _ _ _ 0 0 a ln _ _ _ _ rfl (Keep.refl _ _) F1 F2 F3 S2 (by omega) (Or.inl ⟨rfl, rfl⟩) (Or.inl rfl) ha (by omega) rfl rfl (Or.inl rfl) X0 e0 N0
 intro r
 induction r using Nat.strongRecOn with
 | _ r ih =>
  intro TG101 LG101 hL101 cl sl u lj bj kj dj sl2 hm KL101 Lf0 Lf1 Lf2 Sj hcb hcw hzb hu hlj hq1 hq2 hsl2 XG101 eG101 NG101
  have zKL101 := KL101.1
  have lsj := Sj.lt
  have Ej := Sj.1
  refine yA (fun _ z_ => yC XG101 (Q 0) rfl rfl z_) ?_
  refine yG m 1 #[rv a1, rv a2, sl2] [(.ref a1)] ?_
  refine yO (yV XG101 hZ hown (W 73) eG101 Lf1 rfl rfl (Q 1)) ?_
  intro T102 X102 e102
  refine yA (fun _ z_ => yC X102 (Q 2) rfl rfl z_) ?_
  refine yO (yV X102 hZ hown (W 43) e102 Lf0 rfl rfl (Q 3)) ?_
  intro T103 X103 e103
  have f104 := (S1.keep KL101 (yB (by omega) (yB (by omega) (yB (by omega) nin0))) (yB (by omega) (yB (by omega) (yB (by omega) nin0))))
  have O105 : Old Z n0 hL101 := O0.keep KL101 (allS (by omega) (allS (by omega) (allS (by omega) all0)))
  have f107 := (S1.1.keep KL101)
  refine yL (o_callV X103 hx hZ (y := mN5) (z := mN5) hown (W 80) (W 81) (notFace_of_selects (args := #[]) (mvT hZ (W 83))) (W 83) (W 82) (by decide) (qY (W := 1) (sln hw t1 cs O105 CS hk (yU.str f104)) hZ (W 84) (W 10) (by decide) (by decide)) e103 f107 (Nat.le_trans (by omega : cl + 0 ≤ 1) (by decide)) (Nat.le_trans (by omega : sl + 0 ≤ 40) (by decide)) rfl (hM rfl) (argsL := []) (rest := [(.int (ofNat u))]) (lenOf pd19 rfl) rfl rfl (qE rfl rfl) (Q 4).2) ?_
  rintro T106 _ _ h106 X106 e106 ⟨rfl, N106q, hq106⟩
  replace e106 := e106.trans hq106
  have N106 := Fr.app NG101 N106q
  by_cases c108 : (ofNat u) < (ofNat cs.length)
  · refine yA (fun _ z_ => qH X106 (Q 5) rfl (tlt c108).2.1 z_) ?_
    have hlt : u < cs.length := (qP (by omega) (by omega)).mp c108
    refine yA (fun _ z_ => yC X106 (Q 6) rfl rfl z_) ?_
    refine yO (yV X106 hZ hown (W 43) e106 Lf0 rfl rfl (Q 7)) ?_
    intro T109 X109 e109
    refine yA (fun _ z_ => yC X109 (Q 8) rfl rfl z_) ?_
    refine yO (yV X109 hZ hown (W 73) e109 Lf1 rfl rfl (Q 9)) ?_
    intro T110 X110 e110
    refine yL (o_callV X110 hx hZ (y := mN8) (z := mN8) hown (W 51) (W 52) (notFace_of_selects (args := #[]) (mvT hZ (W 54))) (W 54) (W 53) (by decide) (qY (W := 0) (chA hw t1 cs u O105 CS FM UT hlt hk (yU.str f104)) hZ (W 55) (W 10) (by decide) (by decide)) e110 f107 (Nat.le_trans (by omega : cl + 0 ≤ 1) (by decide)) (Nat.le_trans (by omega : sl + 0 ≤ 40) (by decide)) rfl (hM rfl) (argsL := [(.int (ofNat u))]) (rest := []) (lenOf pd20 rfl) rfl rfl (qE rfl rfl) (Q 10).2) ?_
    rintro T111 _ _ h111 X111 e111 ⟨rfl, N111q, hq111⟩
    replace e111 := e111.trans hq111
    have N111 := Fr.app N106 N111q
    refine yA (fun _ z_ => XS.istoreNS X111.here hx rfl (Q 11).2 rfl (o := sl2) rfl hsl2 (yC X111 (Q 12) rfl rfl (qJ X111 (Q 13) rfl rfl z_))) ?_
    refine yO (yV X111 hZ hown (W 73) e111 Lf1 rfl rfl (Q 14)) ?_
    intro T112 X112 e112
    refine yA (fun _ z_ => yH X112 (Q 15) (XS.iadd X112.here hx rfl (Q 16).2 rfl z_)) ?_
    refine yG m 33 #[rv a1, rv a2, iv (cs.getD u 0)] [(.int ((ofNat u) + (1 : Int32))), (.ref a1)] ?_
    rw [show ((ofNat u) + (1 : Int32)) = (ofNat (u + 1)) from (uD (b := 1) (by omega))]
    have f113 := (E1.keep KL101)
    refine qL (putF X112 hx hZ hown (host := "") (Or.inl (W 73)) Via.refl e112 Lf1 f113 (Or.inl (W 74)) (W 6) (ty := .int) (by decide) rfl rfl rfl rfl (Q 17).2) ?_
    intro T114 h114 X114 e114 W114
    have F114 := Lf1.same W114
    have K114 := Keep.of_wr W114
    have N114 := Fr.snoc X114 N111 (by omega : n0 ≤ a1)
    have zK114 := K114.1
    refine yA (fun _ z_ => yY X114 (Q 18) (yE X114 (Q 19) rfl z_)) ?_
    by_cases c115 : (34 : Int32) = (cs.getD u 0)
    · refine yA (fun _ z_ => qH X114 (Q 20) rfl (teq c115).2 (yC X114 (Q 21) rfl rfl (yY X114 (Q 22) z_))) ?_
      have O116 : Old Z n0 h114 := O105.keep K114 (allS (by omega) all0)
      have f117 := (f113.keep K114)
      have f118 := (Lf0.other W114 (yS (Or.inr (W 44)) (Or.inl (W 74)) (by decide)))
      have f119 := (f104.keep K114 (yB (by omega) nin0) (yB (by omega) nin0))
      refine yL (o_callP X114 hx hZ (y := mN10) hown (W 122) (W 123) (o_selP (o_NIi (W 6)) (W 123) (W 124) (by decide)) (W 124) (W 125) (by decide) (qY (W := 0) (atW hw a1 t1 cs (u + 1) (34 : Int32) O116 CS FM UT hk (by omega) f117 f118 F114 (yU.str f119)) hZ (W 125) (W 7) (by decide) (by decide)) e114 f117 (Nat.le_trans (by omega : cl + 0 ≤ 1) (by decide)) (Nat.le_trans (by omega : sl + 0 ≤ 40) (by decide)) rfl (hM rfl) (argsL := [(.int (34 : Int32))]) (rest := []) (lenOf pd22 rfl) rfl rfl (qE rfl rfl) (Q 23).2) ?_
      rintro T120 _ _ h120 X120 e120 ⟨rfl, N120q, hq120⟩
      replace e120 := e120.trans hq120
      have N120 := Fr.app N114 N120q
      by_cases c121 : (if qX cs (u + 1) (34 : Int32) then (1 : Int32) else 0) = (0 : Int32)
      · refine yA (fun _ z_ => qA X120 (Q 24) rfl ((if0 _ _).trans (teq c121).2) (yH X120 (Q 25) z_)) ?_
        refine yG m 52 #[rv a1, rv a2, iv (cs.getD u 0)] [(.int (1 : Int32))] ?_
        have hqe := o_qeC (ln := lj) hlt c115 (o_ifF c121)
        rw [hqe] at hq1 hq2
        rw [List.append_nil] at hq1
        have KK122 := yF ((Keep.refl h0 [a1, a2, b2]).trans KL101 (allS (Or.inl (by simp)) (allS (Or.inl (by simp)) (allS (Or.inl (by simp)) all0)))) K114
        have f123 := (Lf2.other W114 (yS (Or.inl (W 42)) (Or.inl (W 74)) (by decide)))
        have f124 := (Sj.keep K114 (yB (by omega) nin0) (yB (by omega) nin0))
        exact o_ret X120 hx hlk e120 hret (by decide) uN (Q 26).2 (Nat.le_trans (by omega : cl ≤ 1) (by decide)) (Nat.le_trans (by omega : sl ≤ 40) (by decide)) ⟨by rw [← hq2]; rfl, N120, KK122, f117, f118, (by rw [← hq2]; exact F114), (by rw [← hq2]; exact f123), _, _, (by omega), (by rw [← hq1]; exact f124)⟩
      · refine yA (fun _ z_ => qF X120 48 53 rfl (Q 24) rfl ((if0 _ _).trans (feq c121).2) (by decide) (yC X120 (Q 27) rfl rfl (qJ X120 (Q 28) rfl rfl z_))) ?_
        refine yO (yV X120 hZ hown (W 73) e120 F114 rfl rfl (Q 29)) ?_
        intro T125 X125 e125
        refine yA (fun _ z_ => yH X125 (Q 30) (XS.iadd X125.here hx rfl (Q 31).2 rfl z_)) ?_
        refine yG m 60 #[rv a1, rv a2, iv (cs.getD u 0)] [(.int ((ofNat (u + 1)) + (1 : Int32))), (.ref a1)] ?_
        rw [show ((ofNat (u + 1)) + (1 : Int32)) = (ofNat (u + 1 + 1)) from (uD (b := 1) (by omega))]
        refine qL (putF X125 hx hZ hown (host := "") (Or.inl (W 73)) Via.refl e125 F114 f117 (Or.inl (W 74)) (W 6) (ty := .int) (by decide) rfl rfl rfl rfl (Q 32).2) ?_
        intro T126 h126 X126 e126 W126
        have F126 := F114.same W126
        have K126 := Keep.of_wr W126
        have N126 := Fr.snoc X126 N120 (by omega : n0 ≤ a1)
        have zK126 := K126.1
        refine yA (fun _ z_ => yT X126 63 82 rfl (Q 33) (by decide) z_) ?_
        refine yG m 82 #[rv a1, rv a2, iv (cs.getD u 0)] [] ?_
        have hqe := o_qeD (ln := lj) hlt c115 (o_ifT c121)
        have hdl : dj.length < 16 := by
         have q := congrArg List.length hq1
         rw [hqe, List.length_append, List.length_cons] at q
         omega
        refine yA (fun _ z_ => yC X126 (Q 34) rfl rfl (yE X126 (Q 35) rfl z_)) ?_
        have zo := o_cwS hcw (cs.getD u 0)
        rcases zo with ⟨rfl, rfl, hwl, hwc⟩ | hni
        · refine yG m 84 #[rv a1, rv a2, iv (cs.getD u 0)] [(.int (cs.getD u 0)), (.ref a2)] ?_
          have O127 : Old Z n0 h126 := O116.keep K126 (allS (by omega) all0)
          have KK128 := yF (yF (Keep.refl hL101 [a1]) K114) K126
          have f129 := (Sj.keep KK128 (yB (by omega) nin0) (yB (by omega) nin0))
          have f131 := (Ej.keep KK128)
          refine yL (qZ X126 hZ (y := mN6) hown (W 432) (W 433) (W 435) (W 434) (W 436) (W 205) 0 (sacW1 hw a2 bj kj dj (cs.getD u 0) O127 CS UT FM (by omega) (by omega) (o_gin hbT hlt) hdl f129 ⟨hwl, hwc⟩) e126 f131 (by decide) rfl (hM rfl) [(.int (cs.getD u 0))] (rest := []) pd65 rfl rfl rfl rfl rfl (Q 36)) ?_
          rintro T130 _ _ h130 X130 e130 ⟨rfl, N130q, K130, t130, kb130, zt130, S130⟩
          have zK130 := K130.1
          have N130 := Fr.app N126 N130q
          have ls130 := S130.lt
          have E130 := S130.1
          refine yA (fun _ z_ => XS.pop X130.here hx rfl (Q 37).2 rfl rfl (yT X130 88 0 rfl (Q 38) (by decide) z_)) ?_
          have KK132 := uP (yF (Keep.refl h114 [a1, a2, bj]) K126) K130
          have f133 := ((f118.other W126 (yS (Or.inr (W 44)) (Or.inl (W 74)) (by decide))).keep K130 (yB (by omega) (yB (by omega) nin0)))
          have f134 := (F126.keep K130 (yB (by omega) (yB (by omega) nin0)))
          have KK135 := uP (yF (yF (Keep.refl hL101 [a1, a2, bj]) K114) K126) K130
          have f136 := (((Lf2.other W114 (yS (Or.inl (W 42)) (Or.inl (W 74)) (by decide))).other W126 (yS (Or.inl (W 42)) (Or.inl (W 74)) (by decide))).keep K130 (yB (by omega) (yB (by omega) nin0)))
          have KK137 := (yF (yF ((Keep.refl h0 [a1, a2, b2]).trans KL101 (allS (Or.inl (by simp)) (allS (Or.inl (by simp)) (allS (Or.inl (by simp)) all0)))) K114) K126).trans K130 (allS (Or.inl (by simp)) (allS (o_orA (by omega : bj = b2 ∨ Array.size h0 ≤ bj) (by simp)) all0))
          exact ih _ (by omega) _ _ _ 1 40 (u + 1 + 1) lj _ _ (dj ++ [(cs.getD u 0)]) _ rfl KK137 f133 f134 f136 S130 (by omega) (Or.inr ⟨_, List.mem_append_right _ List.mem_cons_self, hwc⟩) (by omega) (by first | omega | (have q_ := (o_ifT c121).1; omega)) (by omega) (by rw [hqe] at hq1; rw [List.append_assoc]; exact hq1) (by rw [hqe] at hq2; exact hq2) (Or.inr ⟨_, rfl, rfl⟩) X130 e130 N130
        · refine yG m 84 #[rv a1, rv a2, iv (cs.getD u 0)] [(.int (cs.getD u 0)), (.ref a2)] ?_
          have O138 : Old Z n0 h126 := O116.keep K126 (allS (by omega) all0)
          have KK139 := yF (yF (Keep.refl hL101 [a1]) K114) K126
          have f140 := (Sj.keep KK139 (yB (by omega) nin0) (yB (by omega) nin0))
          have f142 := (Ej.keep KK139)
          refine yL (o_callV X126 hx hZ (y := mN6) (z := mN6) hown (W 432) (W 433) (notFace_of_selects (args := #[]) (mvT hZ (W 435))) (W 435) (W 434) (by decide) (qY (W := 0) (sacW0 hw a2 bj kj dj (cs.getD u 0) O138 CS UT FM (by omega) (by omega) (o_gin hbT hlt) hdl f140 hni) hZ (W 436) (W 205) (by decide) (by decide)) e126 f142 (Nat.le_trans (by omega : cl + 0 ≤ 1) (by decide)) (Nat.le_trans (by omega : sl + 0 ≤ 40) (by decide)) rfl (hM rfl) (argsL := [(.int (cs.getD u 0))]) (rest := []) (lenOf pd65 rfl) rfl rfl (qE rfl rfl) (Q 36).2) ?_
          rintro T141 _ _ h141 X141 e141 ⟨rfl, N141q, K141, t141, kb141, zt141, S141⟩
          have zK141 := K141.1
          have N141 := Fr.app N126 N141q
          have ls141 := S141.lt
          have E141 := S141.1
          refine yA (fun _ z_ => XS.pop X141.here hx rfl (Q 37).2 rfl rfl (yT X141 88 0 rfl (Q 38) (by decide) z_)) ?_
          have KK143 := uP (yF (Keep.refl h114 [a1, a2, bj]) K126) K141
          have f144 := ((f118.other W126 (yS (Or.inr (W 44)) (Or.inl (W 74)) (by decide))).keep K141 (yB (by omega) (yB (by omega) nin0)))
          have f145 := (F126.keep K141 (yB (by omega) (yB (by omega) nin0)))
          have KK146 := uP (yF (yF (Keep.refl hL101 [a1, a2, bj]) K114) K126) K141
          have f147 := (((Lf2.other W114 (yS (Or.inl (W 42)) (Or.inl (W 74)) (by decide))).other W126 (yS (Or.inl (W 42)) (Or.inl (W 74)) (by decide))).keep K141 (yB (by omega) (yB (by omega) nin0)))
          have KK148 := (yF (yF ((Keep.refl h0 [a1, a2, b2]).trans KL101 (allS (Or.inl (by simp)) (allS (Or.inl (by simp)) (allS (Or.inl (by simp)) all0)))) K114) K126).trans K141 (allS (Or.inl (by simp)) (allS (o_orA (by omega : bj = b2 ∨ Array.size h0 ≤ bj) (by simp)) all0))
          exact ih _ (by omega) _ _ _ cl sl (u + 1 + 1) lj _ _ (dj ++ [(cs.getD u 0)]) _ rfl KK148 f144 f145 f147 S141 (by omega) (o_cwN hcw _) (by omega) (by first | omega | (have q_ := (o_ifT c121).1; omega)) (by omega) (by rw [hqe] at hq1; rw [List.append_assoc]; exact hq1) (by rw [hqe] at hq2; exact hq2) (Or.inr ⟨_, rfl, rfl⟩) X141 e141 N141
    · refine yA (fun _ z_ => qG X114 39 66 rfl (Q 20) rfl (feq c115).2 (by decide) (yY X114 (Q 39) (yE X114 (Q 40) rfl z_))) ?_
      by_cases c149 : (10 : Int32) = (cs.getD u 0)
      · refine yA (fun _ z_ => qH X114 (Q 41) rfl (teq c149).2 (yC X114 (Q 42) rfl rfl (qJ X114 (Q 43) rfl rfl z_))) ?_
        have f150 := (Lf2.other W114 (yS (Or.inl (W 42)) (Or.inl (W 74)) (by decide)))
        refine yO (yV X114 hZ hown (W 41) e114 f150 rfl rfl (Q 44)) ?_
        intro T151 X151 e151
        refine yA (fun _ z_ => yH X151 (Q 45) (XS.iadd X151.here hx rfl (Q 46).2 rfl z_)) ?_
        refine yG m 79 #[rv a1, rv a2, iv (cs.getD u 0)] [(.int ((ofNat lj) + (1 : Int32))), (.ref a1)] ?_
        rw [show ((ofNat lj) + (1 : Int32)) = (ofNat (lj + 1)) from (uD (b := 1) (by omega))]
        have f152 := (f113.keep K114)
        refine qL (putF X151 hx hZ hown (host := "") (Or.inl (W 41)) Via.refl e151 f150 f152 (Or.inl (W 42)) (W 6) (ty := .int) (by decide) rfl rfl rfl rfl (Q 47).2) ?_
        intro T153 h153 X153 e153 W153
        have F153 := f150.same W153
        have K153 := Keep.of_wr W153
        have N153 := Fr.snoc X153 N114 (by omega : n0 ≤ a1)
        have zK153 := K153.1
        refine yG m 82 #[rv a1, rv a2, iv (cs.getD u 0)] [] ?_
        have hqe := o_qeN (ln := lj) hlt c115 (if_pos c149)
        have hdl : dj.length < 16 := by
         have q := congrArg List.length hq1
         rw [hqe, List.length_append, List.length_cons] at q
         omega
        refine yA (fun _ z_ => yC X153 (Q 34) rfl rfl (yE X153 (Q 35) rfl z_)) ?_
        have zo := o_cwS hcw (cs.getD u 0)
        rcases zo with ⟨rfl, rfl, hwl, hwc⟩ | hni
        · refine yG m 84 #[rv a1, rv a2, iv (cs.getD u 0)] [(.int (cs.getD u 0)), (.ref a2)] ?_
          have KK154 := yF (yF (Keep.refl hL101 [a1]) K114) K153
          have O155 : Old Z n0 h153 := O105.keep KK154 (allS (by omega) all0)
          have f156 := (Sj.keep KK154 (yB (by omega) nin0) (yB (by omega) nin0))
          have f158 := (Ej.keep KK154)
          refine yL (qZ X153 hZ (y := mN6) hown (W 432) (W 433) (W 435) (W 434) (W 436) (W 205) 0 (sacW1 hw a2 bj kj dj (cs.getD u 0) O155 CS UT FM (by omega) (by omega) (o_gin hbT hlt) hdl f156 ⟨hwl, hwc⟩) e153 f158 (by decide) rfl (hM rfl) [(.int (cs.getD u 0))] (rest := []) pd65 rfl rfl rfl rfl rfl (Q 36)) ?_
          rintro T157 _ _ h157 X157 e157 ⟨rfl, N157q, K157, t157, kb157, zt157, S157⟩
          have zK157 := K157.1
          have N157 := Fr.app N153 N157q
          have ls157 := S157.lt
          have E157 := S157.1
          refine yA (fun _ z_ => XS.pop X157.here hx rfl (Q 37).2 rfl rfl (yT X157 88 0 rfl (Q 38) (by decide) z_)) ?_
          have KK159 := uP (yF (yF (Keep.refl hL101 [a1, a2, bj]) K114) K153) K157
          have f160 := (((Lf0.other W114 (yS (Or.inr (W 44)) (Or.inl (W 74)) (by decide))).other W153 (yS (Or.inr (W 44)) (Or.inl (W 42)) (by decide))).keep K157 (yB (by omega) (yB (by omega) nin0)))
          have KK161 := uP (yF (Keep.refl h114 [a1, a2, bj]) K153) K157
          have f162 := ((F114.other W153 (yS (Or.inl (W 74)) (Or.inl (W 42)) (by decide))).keep K157 (yB (by omega) (yB (by omega) nin0)))
          have f163 := (F153.keep K157 (yB (by omega) (yB (by omega) nin0)))
          have KK164 := (yF (yF ((Keep.refl h0 [a1, a2, b2]).trans KL101 (allS (Or.inl (by simp)) (allS (Or.inl (by simp)) (allS (Or.inl (by simp)) all0)))) K114) K153).trans K157 (allS (Or.inl (by simp)) (allS (o_orA (by omega : bj = b2 ∨ Array.size h0 ≤ bj) (by simp)) all0))
          exact ih _ (by omega) _ _ _ 1 40 (u + 1) (lj + 1) _ _ (dj ++ [(cs.getD u 0)]) _ rfl KK164 f160 f162 f163 S157 (by omega) (Or.inr ⟨_, List.mem_append_right _ List.mem_cons_self, hwc⟩) (by omega) (by first | omega | (have q_ := hu; omega)) (by omega) (by rw [hqe] at hq1; rw [List.append_assoc]; exact hq1) (by rw [hqe] at hq2; exact hq2) (Or.inr ⟨_, rfl, rfl⟩) X157 e157 N157
        · refine yG m 84 #[rv a1, rv a2, iv (cs.getD u 0)] [(.int (cs.getD u 0)), (.ref a2)] ?_
          have KK165 := yF (yF (Keep.refl hL101 [a1]) K114) K153
          have O166 : Old Z n0 h153 := O105.keep KK165 (allS (by omega) all0)
          have f167 := (Sj.keep KK165 (yB (by omega) nin0) (yB (by omega) nin0))
          have f169 := (Ej.keep KK165)
          refine yL (o_callV X153 hx hZ (y := mN6) (z := mN6) hown (W 432) (W 433) (notFace_of_selects (args := #[]) (mvT hZ (W 435))) (W 435) (W 434) (by decide) (qY (W := 0) (sacW0 hw a2 bj kj dj (cs.getD u 0) O166 CS UT FM (by omega) (by omega) (o_gin hbT hlt) hdl f167 hni) hZ (W 436) (W 205) (by decide) (by decide)) e153 f169 (Nat.le_trans (by omega : cl + 0 ≤ 1) (by decide)) (Nat.le_trans (by omega : sl + 0 ≤ 40) (by decide)) rfl (hM rfl) (argsL := [(.int (cs.getD u 0))]) (rest := []) (lenOf pd65 rfl) rfl rfl (qE rfl rfl) (Q 36).2) ?_
          rintro T168 _ _ h168 X168 e168 ⟨rfl, N168q, K168, t168, kb168, zt168, S168⟩
          have zK168 := K168.1
          have N168 := Fr.app N153 N168q
          have ls168 := S168.lt
          have E168 := S168.1
          refine yA (fun _ z_ => XS.pop X168.here hx rfl (Q 37).2 rfl rfl (yT X168 88 0 rfl (Q 38) (by decide) z_)) ?_
          have KK170 := uP (yF (yF (Keep.refl hL101 [a1, a2, bj]) K114) K153) K168
          have f171 := (((Lf0.other W114 (yS (Or.inr (W 44)) (Or.inl (W 74)) (by decide))).other W153 (yS (Or.inr (W 44)) (Or.inl (W 42)) (by decide))).keep K168 (yB (by omega) (yB (by omega) nin0)))
          have KK172 := uP (yF (Keep.refl h114 [a1, a2, bj]) K153) K168
          have f173 := ((F114.other W153 (yS (Or.inl (W 74)) (Or.inl (W 42)) (by decide))).keep K168 (yB (by omega) (yB (by omega) nin0)))
          have f174 := (F153.keep K168 (yB (by omega) (yB (by omega) nin0)))
          have KK175 := (yF (yF ((Keep.refl h0 [a1, a2, b2]).trans KL101 (allS (Or.inl (by simp)) (allS (Or.inl (by simp)) (allS (Or.inl (by simp)) all0)))) K114) K153).trans K168 (allS (Or.inl (by simp)) (allS (o_orA (by omega : bj = b2 ∨ Array.size h0 ≤ bj) (by simp)) all0))
          exact ih _ (by omega) _ _ _ cl sl (u + 1) (lj + 1) _ _ (dj ++ [(cs.getD u 0)]) _ rfl KK175 f171 f173 f174 S168 (by omega) (o_cwN hcw _) (by omega) (by first | omega | (have q_ := hu; omega)) (by omega) (by rw [hqe] at hq1; rw [List.append_assoc]; exact hq1) (by rw [hqe] at hq2; exact hq2) (Or.inr ⟨_, rfl, rfl⟩) X168 e168 N168
      · refine yA (fun _ z_ => qG X114 69 82 rfl (Q 41) rfl (feq c149).2 (by decide) z_) ?_
        refine yG m 82 #[rv a1, rv a2, iv (cs.getD u 0)] [] ?_
        have hqe := o_qeN (ln := lj) hlt c115 (if_neg c149)
        have hdl : dj.length < 16 := by
         have q := congrArg List.length hq1
         rw [hqe, List.length_append, List.length_cons] at q
         omega
        refine yA (fun _ z_ => yC X114 (Q 34) rfl rfl (yE X114 (Q 35) rfl z_)) ?_
        have zo := o_cwS hcw (cs.getD u 0)
        rcases zo with ⟨rfl, rfl, hwl, hwc⟩ | hni
        · refine yG m 84 #[rv a1, rv a2, iv (cs.getD u 0)] [(.int (cs.getD u 0)), (.ref a2)] ?_
          have O176 : Old Z n0 h114 := O105.keep K114 (allS (by omega) all0)
          have f177 := (Sj.keep K114 (yB (by omega) nin0) (yB (by omega) nin0))
          have f179 := (Ej.keep K114)
          refine yL (qZ X114 hZ (y := mN6) hown (W 432) (W 433) (W 435) (W 434) (W 436) (W 205) 0 (sacW1 hw a2 bj kj dj (cs.getD u 0) O176 CS UT FM (by omega) (by omega) (o_gin hbT hlt) hdl f177 ⟨hwl, hwc⟩) e114 f179 (by decide) rfl (hM rfl) [(.int (cs.getD u 0))] (rest := []) pd65 rfl rfl rfl rfl rfl (Q 36)) ?_
          rintro T178 _ _ h178 X178 e178 ⟨rfl, N178q, K178, t178, kb178, zt178, S178⟩
          have zK178 := K178.1
          have N178 := Fr.app N114 N178q
          have ls178 := S178.lt
          have E178 := S178.1
          refine yA (fun _ z_ => XS.pop X178.here hx rfl (Q 37).2 rfl rfl (yT X178 88 0 rfl (Q 38) (by decide) z_)) ?_
          have KK180 := uP (yF (Keep.refl hL101 [a1, a2, bj]) K114) K178
          have f181 := ((Lf0.other W114 (yS (Or.inr (W 44)) (Or.inl (W 74)) (by decide))).keep K178 (yB (by omega) (yB (by omega) nin0)))
          have f182 := (F114.keep K178 (yB (by omega) (yB (by omega) nin0)))
          have f183 := ((Lf2.other W114 (yS (Or.inl (W 42)) (Or.inl (W 74)) (by decide))).keep K178 (yB (by omega) (yB (by omega) nin0)))
          have KK184 := (yF ((Keep.refl h0 [a1, a2, b2]).trans KL101 (allS (Or.inl (by simp)) (allS (Or.inl (by simp)) (allS (Or.inl (by simp)) all0)))) K114).trans K178 (allS (Or.inl (by simp)) (allS (o_orA (by omega : bj = b2 ∨ Array.size h0 ≤ bj) (by simp)) all0))
          exact ih _ (by omega) _ _ _ 1 40 (u + 1) lj _ _ (dj ++ [(cs.getD u 0)]) _ rfl KK184 f181 f182 f183 S178 (by omega) (Or.inr ⟨_, List.mem_append_right _ List.mem_cons_self, hwc⟩) (by omega) (by first | omega | (have q_ := hu; omega)) (by omega) (by rw [hqe] at hq1; rw [List.append_assoc]; exact hq1) (by rw [hqe] at hq2; exact hq2) (Or.inr ⟨_, rfl, rfl⟩) X178 e178 N178
        · refine yG m 84 #[rv a1, rv a2, iv (cs.getD u 0)] [(.int (cs.getD u 0)), (.ref a2)] ?_
          have O185 : Old Z n0 h114 := O105.keep K114 (allS (by omega) all0)
          have f186 := (Sj.keep K114 (yB (by omega) nin0) (yB (by omega) nin0))
          have f188 := (Ej.keep K114)
          refine yL (o_callV X114 hx hZ (y := mN6) (z := mN6) hown (W 432) (W 433) (notFace_of_selects (args := #[]) (mvT hZ (W 435))) (W 435) (W 434) (by decide) (qY (W := 0) (sacW0 hw a2 bj kj dj (cs.getD u 0) O185 CS UT FM (by omega) (by omega) (o_gin hbT hlt) hdl f186 hni) hZ (W 436) (W 205) (by decide) (by decide)) e114 f188 (Nat.le_trans (by omega : cl + 0 ≤ 1) (by decide)) (Nat.le_trans (by omega : sl + 0 ≤ 40) (by decide)) rfl (hM rfl) (argsL := [(.int (cs.getD u 0))]) (rest := []) (lenOf pd65 rfl) rfl rfl (qE rfl rfl) (Q 36).2) ?_
          rintro T187 _ _ h187 X187 e187 ⟨rfl, N187q, K187, t187, kb187, zt187, S187⟩
          have zK187 := K187.1
          have N187 := Fr.app N114 N187q
          have ls187 := S187.lt
          have E187 := S187.1
          refine yA (fun _ z_ => XS.pop X187.here hx rfl (Q 37).2 rfl rfl (yT X187 88 0 rfl (Q 38) (by decide) z_)) ?_
          have KK189 := uP (yF (Keep.refl hL101 [a1, a2, bj]) K114) K187
          have f190 := ((Lf0.other W114 (yS (Or.inr (W 44)) (Or.inl (W 74)) (by decide))).keep K187 (yB (by omega) (yB (by omega) nin0)))
          have f191 := (F114.keep K187 (yB (by omega) (yB (by omega) nin0)))
          have f192 := ((Lf2.other W114 (yS (Or.inl (W 42)) (Or.inl (W 74)) (by decide))).keep K187 (yB (by omega) (yB (by omega) nin0)))
          have KK193 := (yF ((Keep.refl h0 [a1, a2, b2]).trans KL101 (allS (Or.inl (by simp)) (allS (Or.inl (by simp)) (allS (Or.inl (by simp)) all0)))) K114).trans K187 (allS (Or.inl (by simp)) (allS (o_orA (by omega : bj = b2 ∨ Array.size h0 ≤ bj) (by simp)) all0))
          exact ih _ (by omega) _ _ _ cl sl (u + 1) lj _ _ (dj ++ [(cs.getD u 0)]) _ rfl KK193 f190 f191 f192 S187 (by omega) (o_cwN hcw _) (by omega) (by first | omega | (have q_ := hu; omega)) (by omega) (by rw [hqe] at hq1; rw [List.append_assoc]; exact hq1) (by rw [hqe] at hq2; exact hq2) (Or.inr ⟨_, rfl, rfl⟩) X187 e187 N187
  · refine yA (fun _ z_ => qG X106 11 91 rfl (Q 5) rfl (flt c108).2.1 (by decide) (yH X106 (Q 48) z_)) ?_
    refine yG m 92 #[rv a1, rv a2, sl2] [(.int (0 : Int32))] ?_
    have hqe := o_qeE (ln := lj) (cs := cs) (u := u) (fun q => c108 ((qP (by omega) (by omega)).mpr q))
    rw [hqe] at hq1 hq2
    rw [List.append_nil] at hq1
    have f194 := (E1.keep KL101)
    exact o_ret X106 hx hlk e106 hret (by decide) uN (Q 49).2 (Nat.le_trans (by omega : cl ≤ 1) (by decide)) (Nat.le_trans (by omega : sl ≤ 40) (by decide)) ⟨by rw [← hq2]; rfl, N106, KL101, f194, Lf0, (by rw [← hq2]; exact Lf1), (by rw [← hq2]; exact Lf2), _, _, (by omega), (by rw [← hq1]; exact Sj)⟩
abbrev o_TXT : List Int32 := [(116 : Int32), (101 : Int32), (120 : Int32), (116 : Int32), (32 : Int32), (97 : Int32), (102 : Int32), (116 : Int32), (101 : Int32), (114 : Int32), (32 : Int32), (99 : Int32), (108 : Int32), (111 : Int32), (115 : Int32), (105 : Int32), (110 : Int32), (103 : Int32), (32 : Int32), (113 : Int32), (117 : Int32), (111 : Int32), (116 : Int32), (101 : Int32)]
abbrev o_UNC : List Int32 := [(117 : Int32), (110 : Int32), (99 : Int32), (108 : Int32), (111 : Int32), (115 : Int32), (101 : Int32), (100 : Int32), (32 : Int32), (113 : Int32), (117 : Int32), (111 : Int32), (116 : Int32), (101 : Int32)]
def uX (Z : State) (h : Heap) (fv : Value) (k s t : Nat) : Prop := (k = 0 ∧ fv = .null) ∨ (k = 1 ∧ fv = .ref s ∧ yU Z h s t o_TXT) ∨ (k = 2 ∧ fv = .ref s ∧ yU Z h s t o_UNC)
theorem uX.keep {Z : State} {h h' : Heap} {fv : Value} {k s t : Nat} {ws : List Nat} (S : uX Z h fv k s t) (K : Keep h h' ws) (q1 : s ∉ ws) (q2 : t ∉ ws) : uX Z h' fv k s t := by
 rcases S with S | ⟨a, b, S⟩ | ⟨a, b, S⟩
 · exact Or.inl S
 · exact Or.inr (Or.inl ⟨a, b, S.keep K q1 q2⟩)
 · exact Or.inr (Or.inr ⟨a, b, S.keep K q1 q2⟩)
theorem o_AL.safe {Z : State} {h : Heap} {x y : Nat} {rs : List Nat} {EL : List (String × Nat)} {vm : Vm} (hal : Z.vm.Alike vm) (S : o_AL Z h x y rs) : Safe Z EL vm h y := by
 obtain ⟨E, ea, mc, F1, F2, F3, r⟩ := S
 rcases r with ⟨-, rfl, -⟩ | ⟨rfl, -, kE, vs, A, E2, -⟩
 · exact Safe.exa hal E (by decide) (by decide)
 · exact Safe.exa hal E2 (by decide) (by decide)
theorem o_litStrT {Z : State} {h : Heap} {a b : Nat} {k : ClassId} {z : Int32} {vs : List Value} {cs : List Int32} (E : Exa Z h a sN2) (C : Fld Z h a sN2 "coder" "B" (.int 0)) (V : Fld Z h a sN2 "value" "[B" (.ref b)) (A : Arv Z h b k .byte z vs (.int 0)) (hz : z = ofNat cs.length) (hv : vs = cs.map fun c => Value.int (StrChars.lo8 c)) (hc : ∀ c ∈ cs, ¬ c < 0 ∧ ¬ (255 : Int32) < c) (hl : cs.length ≤ 4000) : yU Z h a b cs :=
 ⟨E, k, 0, z, vs, V, C, A, Or.inl ⟨rfl, hz, hv, fun c q => (hc c q).2⟩, o_up _ hc, hl⟩
abbrev o_sl (cs : List Int32) (a b : Nat) : List Int32 := (cs.drop a).take (b - a)
def o_fd (cs : List Int32) (a ln : Nat) : List Int32 × Nat × Nat × Nat :=
 if qX cs a 34 then
  (if (qW cs (a + 1) ln).2.2.2 then
   (if (qW cs (a + 1) ln).2.1 < cs.length ∧ ¬ qX cs (qW cs (a + 1) ln).2.1 44 ∧ ¬ qR cs (qW cs (a + 1) ln).2.1 then
    ((qW cs (a + 1) ln).1 ++ o_sl cs (qW cs (a + 1) ln).2.1 (uT cs (qW cs (a + 1) ln).2.1), uT cs (qW cs (a + 1) ln).2.1, (qW cs (a + 1) ln).2.2.1, 1)
   else ((qW cs (a + 1) ln).1, (qW cs (a + 1) ln).2.1, (qW cs (a + 1) ln).2.2.1, 0))
  else ((qW cs (a + 1) ln).1, (qW cs (a + 1) ln).2.1, (qW cs (a + 1) ln).2.2.1, 2))
 else (o_sl cs a (uT cs a), uT cs a, ln, 0)
theorem o_fdU {cs : List Int32} {a ln : Nat} (h : ¬ qX cs a 34) : o_fd cs a ln = (o_sl cs a (uT cs a), uT cs a, ln, 0) := by unfold o_fd; rw [if_neg h]
theorem o_fdX {cs : List Int32} {a ln qa ql : Nat} {qs : List Int32} {qb : Bool} (h : qX cs a 34) (e : qW cs (a + 1) ln = (qs, qa, ql, qb)) (hb : ¬ qb = true) : o_fd cs a ln = (qs, qa, ql, 2) := by unfold o_fd; rw [if_pos h, e, if_neg hb]
theorem o_fdT {cs : List Int32} {a ln qa ql : Nat} {qs : List Int32} {qb : Bool} (h : qX cs a 34) (e : qW cs (a + 1) ln = (qs, qa, ql, qb)) (hb : qb = true) (hc : qa < cs.length ∧ ¬ qX cs qa 44 ∧ ¬ qR cs qa) : o_fd cs a ln = (qs ++ o_sl cs qa (uT cs qa), uT cs qa, ql, 1) := by unfold o_fd; rw [if_pos h, e, if_pos hb, if_pos hc]
theorem o_fdO {cs : List Int32} {a ln qa ql : Nat} {qs : List Int32} {qb : Bool} (h : qX cs a 34) (e : qW cs (a + 1) ln = (qs, qa, ql, qb)) (hb : qb = true) (hc : ¬ (qa < cs.length ∧ ¬ qX cs qa 44 ∧ ¬ qR cs qa)) : o_fd cs a ln = (qs, qa, ql, 0) := by unfold o_fd; rw [if_pos h, e, if_pos hb, if_neg hc]
abbrev o_RR : Type := List (List Int32) × Nat × Nat × Nat
def o_tl (cs : List Int32) (g : Nat → Nat → Nat → o_RR) (f : List Int32) (a ln ft : Nat) : o_RR :=
 if qX cs a 44 then (f :: (g (a + 1) ln ft).1, (g (a + 1) ln ft).2) else if qR cs a then ([f], ft, a + (if qX cs a 13 then 2 else 1), ln + 1) else ([f], ft, a, ln)
def uC (cs : List Int32) : Nat → Nat → Nat → Nat → o_RR
 | 0, a, ln, _ => ([], 9, a, ln)
 | n + 1, a, ln, ft => if (o_fd cs a ln).2.2.2 = 2 then ([(o_fd cs a ln).1], 2, (o_fd cs a ln).2.1, (o_fd cs a ln).2.2.1) else o_tl cs (uC cs n) (o_fd cs a ln).1 (o_fd cs a ln).2.1 (o_fd cs a ln).2.2.1 (if (o_fd cs a ln).2.2.2 = 1 then 1 else ft)
theorem o_rwX {cs : List Int32} {n a ln ft fe ae le a' l' : Nat} {f : List Int32} {fr : List (List Int32)} (h : uC cs (n + 1) a ln ft = (fr, fe, ae, le)) (d : o_fd cs a ln = (f, a', l', 2)) : fr = [f] ∧ fe = 2 ∧ ae = a' ∧ le = l' := by
 rw [uC, d, if_pos rfl] at h
 simp only [Prod.mk.injEq] at h
 exact ⟨h.1.symm, h.2.1.symm, h.2.2.1.symm, h.2.2.2.symm⟩
theorem o_rwN {cs : List Int32} {n a ln ft fe ae le a' l' k : Nat} {f : List Int32} {fr : List (List Int32)} (h : uC cs (n + 1) a ln ft = (fr, fe, ae, le)) (d : o_fd cs a ln = (f, a', l', k)) (hk : k ≠ 2) : o_tl cs (uC cs n) f a' l' (if k = 1 then 1 else ft) = (fr, fe, ae, le) := by
 rw [uC, d, if_neg hk] at h; exact h
theorem o_tl1 {cs : List Int32} {g : Nat → Nat → Nat → o_RR} {f : List Int32} {a ln ft fe ae le : Nat} {fr : List (List Int32)} (h : o_tl cs g f a ln ft = (fr, fe, ae, le)) (q : qX cs a 44) : ∃ fr', fr = f :: fr' ∧ g (a + 1) ln ft = (fr', fe, ae, le) := by
 rw [o_tl, if_pos q] at h
 simp only [Prod.mk.injEq] at h
 exact ⟨_, h.1.symm, Prod.ext rfl h.2⟩
theorem o_tl2 {cs : List Int32} {g : Nat → Nat → Nat → o_RR} {f : List Int32} {a ln ft fe ae le : Nat} {fr : List (List Int32)} (h : o_tl cs g f a ln ft = (fr, fe, ae, le)) (q : ¬ qX cs a 44) (q' : qR cs a) : fr = [f] ∧ fe = ft ∧ ae = a + (if qX cs a 13 then 2 else 1) ∧ le = ln + 1 := by
 rw [o_tl, if_neg q, if_pos q'] at h
 simp only [Prod.mk.injEq] at h
 exact ⟨h.1.symm, h.2.1.symm, h.2.2.1.symm, h.2.2.2.symm⟩
theorem o_tl3 {cs : List Int32} {g : Nat → Nat → Nat → o_RR} {f : List Int32} {a ln ft fe ae le : Nat} {fr : List (List Int32)} (h : o_tl cs g f a ln ft = (fr, fe, ae, le)) (q : ¬ qX cs a 44) (q' : ¬ qR cs a) : fr = [f] ∧ fe = ft ∧ ae = a ∧ le = ln := by
 rw [o_tl, if_neg q, if_neg q'] at h
 simp only [Prod.mk.injEq] at h
 exact ⟨h.1.symm, h.2.1.symm, h.2.2.1.symm, h.2.2.2.symm⟩
theorem o_tlf {cs : List Int32} {g : Nat → Nat → Nat → o_RR} {f : List Int32} {a ln ft fe ae le : Nat} {fr : List (List Int32)} (h : o_tl cs g f a ln ft = (fr, fe, ae, le)) : f ∈ fr := by
 by_cases q : qX cs a 44
 · obtain ⟨fr', e, -⟩ := o_tl1 h q; rw [e]; exact List.mem_cons_self
 · by_cases q' : qR cs a
   · rw [(o_tl2 h q q').1]; exact List.mem_cons_self
   · rw [(o_tl3 h q q').1]; exact List.mem_cons_self
theorem o_sll {cs : List Int32} {a b : Nat} (h1 : a ≤ b) (h2 : b ≤ cs.length) : (o_sl cs a b).length = b - a := by
 rw [List.length_take, List.length_drop]; omega
theorem o_hb1 {P : Nat → Prop} {rs : List Nat} {b : Nat} (h : ∀ r ∈ rs, P r) (q : P b) : ∀ r ∈ rs ++ [b], P r := fun r hr => by
 rcases List.mem_append.mp hr with u | u
 · exact h r u
 · rw [List.mem_singleton.mp u]; exact q
theorem o_hb4 {P : Nat → Prop} {rs ts : List Nat} {b t : Nat} (h : ∀ r ∈ rs ++ ts, P r) (q : P b) (q' : P t) : ∀ r ∈ (rs ++ [b]) ++ (ts ++ [t]), P r := fun r hr => by
 rcases List.mem_append.mp hr with u | u
 · exact o_hb1 (fun r hr => h r (List.mem_append_left _ hr)) q r u
 · exact o_hb1 (fun r hr => h r (List.mem_append_right _ hr)) q' r u
theorem o_qlen {cs : List Int32} {n a ln ft fe ae le qa ql : Nat} {qs : List Int32} {qb : Bool} {fr : List (List Int32)} (h : uC cs (n + 1) a ln ft = (fr, fe, ae, le)) (ha : qX cs a 34) (e : qW cs (a + 1) ln = (qs, qa, ql, qb)) (hl : ∀ f ∈ fr, f.length < 16) : qs.length < 16 := by
 by_cases hb : qb = true
 · by_cases hc : qa < cs.length ∧ ¬ qX cs qa 44 ∧ ¬ qR cs qa
   · have q := hl _ (o_tlf (o_rwN h (o_fdT ha e hb hc) (by decide)))
     rw [List.length_append] at q; omega
   · exact hl _ (o_tlf (o_rwN h (o_fdO ha e hb hc) (by decide)))
 · obtain ⟨q, -⟩ := o_rwX h (o_fdX ha e hb)
   exact hl _ (by rw [q]; exact List.mem_cons_self)
def o_nd (a b y N s t : Nat) : Prop := (s ≠ a ∧ t ≠ a) ∧ (s ≠ b ∧ t ≠ b) ∧ (s ≠ y ∧ t ≠ y) ∧ s < N ∧ t < N
theorem o_ndi {a b y N s t : Nat} (h : (s ≠ a ∧ t ≠ a) ∧ (s ≠ b ∧ t ≠ b) ∧ (s ≠ y ∧ t ≠ y) ∧ s < N ∧ t < N) : o_nd a b y N s t := h
theorem o_ndn {a b y N s t : Nat} (h1 : a ≠ s ∧ a ≠ t) (h2 : b ≠ s ∧ b ≠ t) (h3 : y ≠ s ∧ y ≠ t) (h4 : s < N) (h5 : t < N) : o_nd a b y N s t := ⟨⟨Ne.symm h1.1, Ne.symm h1.2⟩, ⟨Ne.symm h2.1, Ne.symm h2.2⟩, ⟨Ne.symm h3.1, Ne.symm h3.2⟩, h4, h5⟩
theorem o_nd.mono {a b y N N' s t : Nat} (h : o_nd a b y N s t) (q : N ≤ N') : o_nd a b y N' s t := ⟨h.1, h.2.1, h.2.2.1, Nat.lt_of_lt_of_le h.2.2.2.1 q, Nat.lt_of_lt_of_le h.2.2.2.2 q⟩
theorem o_nd.step {a b y y' N N' s t : Nat} (h : o_nd a b y N s t) (r : y' = y ∨ N ≤ y') (q : N ≤ N') : o_nd a b y' N' s t := by
 obtain ⟨h1, h2, h3, h4, h5⟩ := h
 refine ⟨h1, h2, ?_, Nat.lt_of_lt_of_le h4 q, Nat.lt_of_lt_of_le h5 q⟩
 rcases r with rfl | r
 · exact h3
 · exact ⟨Nat.ne_of_lt (Nat.lt_of_lt_of_le h4 r), Nat.ne_of_lt (Nat.lt_of_lt_of_le h5 r)⟩
theorem d15 : yX prog_4_method_4_code [(0, .aload_n 0, 1), (1, .getfield 13, 3), (4, .invokevirtual 69, 3), (7, .aload_n 0, 1), (8, .getfield 28, 3), (11, .if_icmp .gt 5, 3), (14, .aconst_null, 1), (15, .areturn, 1), (16, .aload_n 0, 1), (17, .getfield 7, 3), (20, .istore_n 1, 1), (21, .new 72, 3), (24, .dup, 1), (25, .invokespecial 74, 3), (28, .astore_n 2, 1), (29, .aload_n 0, 1), (30, .invokevirtual 75, 3), (33, .ifCond .eq 14, 3), (36, .new 78, 3), (39, .dup, 1), (40, .iload_n 1, 1), (41, .aload_n 2, 1), (42, .aconst_null, 1), (43, .invokespecial 80, 3), (46, .areturn, 1), (47, .aconst_null, 1), (48, .astore_n 3, 1), (156, .aload_n 2, 1), (157, .aload 4, 2), (159, .invokevirtual 65, 3), (162, .invokevirtual 91, 3), (165, .pop, 1), (166, .aload_n 0, 1), (167, .bipush 44, 2), (169, .invokevirtual 83, 3), (172, .ifCond .eq 16, 3), (188, .aload_n 0, 1), (189, .invokevirtual 75, 3), (192, .pop, 1), (193, .new 78, 3), (196, .dup, 1), (197, .iload_n 1, 1), (198, .aload_n 2, 1), (199, .aload_n 3, 1), (200, .invokespecial 80, 3), (203, .areturn, 1), (175, .aload_n 0, 1), (176, .dup, 1), (177, .getfield 28, 3), (180, .iconst 1, 1), (181, .iadd, 1), (182, .putfield 28, 3), (185, .goto 19, 3), (204, .goto (-155), 3), (49, .new 31, 3), (52, .dup, 1), (53, .invokespecial 33, 3), (56, .astore 4, 2), (58, .aload_n 0, 1), (59, .bipush 34, 2), (61, .invokevirtual 83, 3), (64, .ifCond .eq 86, 3), (150, .aload_n 0, 1), (151, .aload 4, 2), (153, .invokevirtual 102, 3), (67, .aload_n 0, 1), (68, .dup, 1), (69, .getfield 28, 3), (72, .iconst 1, 1), (73, .iadd, 1), (74, .putfield 28, 3), (77, .aload_n 0, 1), (78, .aload 4, 2), (80, .invokevirtual 87, 3), (83, .ifCond .ne 25, 3), (86, .aload_n 2, 1), (87, .aload 4, 2), (89, .invokevirtual 65, 3), (92, .invokevirtual 91, 3), (95, .pop, 1), (96, .new 78, 3), (99, .dup, 1), (100, .iload_n 1, 1), (101, .aload_n 2, 1), (102, .ldc 95, 2), (104, .invokespecial 80, 3), (107, .areturn, 1), (108, .aload_n 0, 1), (109, .getfield 28, 3), (112, .aload_n 0, 1), (113, .getfield 13, 3), (116, .invokevirtual 69, 3), (119, .if_icmp .ge 37, 3), (122, .aload_n 0, 1), (123, .bipush 44, 2), (125, .invokevirtual 83, 3), (128, .ifCond .ne 28, 3), (131, .aload_n 0, 1), (132, .invokevirtual 97, 3), (135, .ifCond .ne 21, 3), (138, .ldc 100, 2), (140, .astore_n 3, 1), (141, .aload_n 0, 1), (142, .aload 4, 2), (144, .invokevirtual 102, 3), (147, .goto 9, 3)] := by decide +kernel
abbrev nx0R : Room := { frames := 2, cells := 0, slots := 0, locals := 25 }
theorem nx0 (hw : yQ a0 Z) (a1 t1 tb D mr em bE : Nat) (cs : List Int32) (a ln : Nat) (O0 : Old Z n0 h0) (CS : uE Z) (FM : uQ Z) (FI : o_FMI Z) (UT : uB Z) (DE : o_DE Z D) (MM : o_MM Z sN8 mr) (EM : o_EM Z em) (E0 : o_E0 Z bE) (hk : cs.length ≤ 20) (hln : ln ≤ 100) (g1 : n0 ≤ a1) (d3 : t1 ≠ a1) (d6 : tb ≠ a1) (E1 : Exa Z h0 a1 sN1) (F1 : Fld Z h0 a1 sN1 "m_text" sN9 (.ref t1)) (F2 : Fld Z h0 a1 sN1 "m_at" "I" (.int (ofNat a))) (F3 : Fld Z h0 a1 sN1 "m_line" "I" (.int (ofNat ln))) (S1 : yU Z h0 t1 tb cs) (hal : cs.length ≤ a) (hab : a ≤ 40) :
 yZ l Z mN1 prog_4_method_4_code 5 (some (.object sN3)) [] nx0R #[(.ref a1)] h0 (fun v h L => v = some .null ∧ Fr n0 L ∧ h = h0) := by
 refine yK (plainFor_of_name pd21) ?_
 intro p e s m below meth c T0 X0 hx hby hml hZ hown hnm hret hlk e0
 have hM := @qK _ _ hml
 have W := qC hw
 have Q := @yR p c _ _ _ hx hby d15
 have N0 := Fr.nil n0
 have zO := yM O0
 have hlt1 := S1.lt
 have la1 : a1 < h0.size := E1.lt
 have hbT : ∀ c ∈ cs, ¬ c < 0 ∧ ¬ (65535 : Int32) < c := by obtain ⟨-, _, _, _, _, -, -, -, -, q, -⟩ := id S1; exact q
 refine yP 4 rfl rfl ?_
 refine yG m 0 #[rv a1, .unset, .unset, .unset, .unset] [] ?_
 refine yA (fun _ z_ => yC X0 (Q 0) rfl rfl z_) ?_
 refine yO (yV X0 hZ hown (W 43) e0 F1 rfl rfl (Q 1)) ?_
 intro T101 X101 e101
 refine yL (qZ X101 hZ (y := mN5) hown (W 80) (W 81) (W 83) (W 82) (W 84) (W 10) 0 (sln hw t1 cs O0 CS hk (yU.str S1)) e101 S1.1 (by decide) rfl (hM rfl) [] (rest := []) pd19 rfl rfl rfl rfl rfl (Q 2)) ?_
 rintro T102 _ _ h102 X102 e102 ⟨rfl, N102q, hq102⟩
 replace e102 := e102.trans hq102
 have N102 := Fr.app N0 N102q
 refine yA (fun _ z_ => yC X102 (Q 3) rfl rfl z_) ?_
 refine yO (yV X102 hZ hown (W 73) e102 F2 rfl rfl (Q 4)) ?_
 intro T103 X103 e103
 refine yA (fun _ z_ => qH X103 (Q 5) rfl (flt (by rw [qP (by omega) (by omega)]; omega)).2.2.1 (XS.aconstNull X103.here hx rfl (Q 6).2 z_)) ?_
 exact yW X103 hlk e103 hret rfl (uA rfl rfl) (Q 7) (by decide) ⟨rfl, N102, rfl⟩
theorem pd66 : parseMethodDescriptor "(ILjava/util/List;Ljava/lang/String;)V" = some ⟨[.int, (.object sN13), (.object sN2)], none⟩ := by decide +kernel
abbrev nxER : Room := { frames := 10, cells := 5, slots := 21, locals := 131 }
theorem nxE (hw : yQ a0 Z) (a1 t1 tb D mr em bE : Nat) (cs : List Int32) (a ln : Nat) (O0 : Old Z n0 h0) (CS : uE Z) (FM : uQ Z) (FI : o_FMI Z) (UT : uB Z) (DE : o_DE Z D) (MM : o_MM Z sN8 mr) (EM : o_EM Z em) (E0 : o_E0 Z bE) (hk : cs.length ≤ 20) (hln : ln ≤ 100) (g1 : n0 ≤ a1) (d3 : t1 ≠ a1) (d6 : tb ≠ a1) (E1 : Exa Z h0 a1 sN1) (F1 : Fld Z h0 a1 sN1 "m_text" sN9 (.ref t1)) (F2 : Fld Z h0 a1 sN1 "m_at" "I" (.int (ofNat a))) (F3 : Fld Z h0 a1 sN1 "m_line" "I" (.int (ofNat ln))) (S1 : yU Z h0 t1 tb cs) (hal : a < cs.length) (he : qR cs a) :
 yZ l Z mN1 prog_4_method_4_code 5 (some (.object sN3)) [] nxER #[(.ref a1)] h0 (fun v h L => Fr n0 L ∧ Keep h0 h [a1] ∧ Exa Z h a1 sN1 ∧ Fld Z h a1 sN1 "m_text" sN9 (.ref t1) ∧ Fld Z h a1 sN1 "m_at" "I" (.int (ofNat (a + if qX cs a 13 then 2 else 1))) ∧ Fld Z h a1 sN1 "m_line" "I" (.int (ofNat (ln + 1))) ∧ ∃ x : Nat, v = some (.ref x) ∧ o_Row Z h n0 x (ofNat ln) [] .null) := by
 refine yK (plainFor_of_name pd21) ?_
 intro p e s m below meth c T0 X0 hx hby hml hZ hown hnm hret hlk e0
 have hM := @qK _ _ hml
 have W := qC hw
 have Q := @yR p c _ _ _ hx hby d15
 have N0 := Fr.nil n0
 have zO := yM O0
 have hlt1 := S1.lt
 have la1 : a1 < h0.size := E1.lt
 have hbT : ∀ c ∈ cs, ¬ c < 0 ∧ ¬ (65535 : Int32) < c := by obtain ⟨-, _, _, _, _, -, -, -, -, q, -⟩ := id S1; exact q
 refine yP 4 rfl rfl ?_
 refine yG m 0 #[rv a1, .unset, .unset, .unset, .unset] [] ?_
 refine yA (fun _ z_ => yC X0 (Q 0) rfl rfl z_) ?_
 refine yO (yV X0 hZ hown (W 43) e0 F1 rfl rfl (Q 1)) ?_
 intro T101 X101 e101
 refine yL (qZ X101 hZ (y := mN5) hown (W 80) (W 81) (W 83) (W 82) (W 84) (W 10) 0 (sln hw t1 cs O0 CS hk (yU.str S1)) e101 S1.1 (by decide) rfl (hM rfl) [] (rest := []) pd19 rfl rfl rfl rfl rfl (Q 2)) ?_
 rintro T102 _ _ h102 X102 e102 ⟨rfl, N102q, hq102⟩
 replace e102 := e102.trans hq102
 have N102 := Fr.app N0 N102q
 refine yA (fun _ z_ => yC X102 (Q 3) rfl rfl z_) ?_
 refine yO (yV X102 hZ hown (W 73) e102 F2 rfl rfl (Q 4)) ?_
 intro T103 X103 e103
 refine yA (fun _ z_ => qG X103 11 16 rfl (Q 5) rfl (tlt ((qP (by omega) (by omega)).mpr hal)).2.2.1 (by decide) (yC X103 (Q 8) rfl rfl z_)) ?_
 refine yO (yV X103 hZ hown (W 41) e103 F3 rfl rfl (Q 9)) ?_
 intro T104 X104 e104
 refine yG m 20 #[rv a1, .unset, .unset, .unset, .unset] [(.int (ofNat ln))] ?_
 refine yA (fun _ z_ => XS.istoreN X104.here hx rfl (Q 10).2 rfl rfl z_) ?_
 have zo := newO X104 hx hZ hown (W 90) (W 91) (W 92) e104 (g := (mkF m 21 #[rv a1, iv (ofNat ln), .unset, .unset, .unset] [])) rfl (Q 11).2 (by decide) (by decide)
 obtain ⟨T105, h105, X105, e105, E105, A105, D105, -, st105⟩ := zo
 have zo : ∃ z, z = h0.size := ⟨_, rfl⟩
 obtain ⟨b105, g105⟩ := zo
 rw [← g105] at A105 D105 st105
 have K105 : Keep h0 h105 [] := (Keep.refl _ _).ext E105
 have l105 : b105 < h105.size := A105.lt
 refine yA st105 ?_
 have zK105 := K105.1
 refine yA (fun _ z_ => qJ X105 (Q 12) rfl rfl z_) ?_
 have O106 : Old Z n0 h105 := O0.keep K105 all0
 have F_modCount_b105 : Fld Z h105 b105 sN16 sN23 "I" (.int (0 : Int32)) := D105 (Or.inl (W 110)) (ty := .int) (by decide)
 have F_size_b105 : Fld Z h105 b105 sN7 "size" "I" (.int (0 : Int32)) := D105 (Or.inl (W 162)) (ty := .int) (by decide)
 have F_elementData_b105 : Fld Z h105 b105 sN7 sN20 sN8 .null := D105 (Or.inl (W 113)) (ty := (.array (.object sN6))) (by decide)
 refine yL (o_cI X105 hZ (y := mN53) rfl hown (W 93) (W 94) (W 95) (W 92) 1 (alI hw b105 D _ _ O106 DE (by omega) A105 F_modCount_b105 F_size_b105 F_elementData_b105) e105 (by decide) rfl (hM rfl) (a := b105) [] (rest := [(.ref b105)]) pd33 rfl rfl rfl rfl rfl (Q 13)) ?_
 rintro T107 _ _ h107 X107 e107 ⟨rfl, N107q, K107, S107⟩
 have zK107 := K107.1
 have N107 := Fr.app N102 N107q
 have E107 := S107.1
 refine yA (fun _ z_ => XS.astoreN X107.here hx rfl (Q 14).2 rfl rfl rfl (yC X107 (Q 15) rfl rfl z_)) ?_
 have O108 : Old Z n0 h107 := O106.keep K107 (allS (by omega) all0)
 have KK109 := yN (yI (Keep.refl h0 []) K105) K107
 have f110 := (E1.keep KK109)
 have f111 := (F1.keep KK109 nin0)
 have f112 := (F2.keep KK109 nin0)
 have f113 := (F3.keep KK109 nin0)
 have f114 := (S1.keep KK109 nin0 nin0)
 refine yL (o_cP X107 hZ (y := mN16) hown (W 114) (W 115) (o_NIi (W 6)) (W 116) (W 117) (W 7) 0 (eo1 hw a1 t1 cs a ln O108 CS FM UT hk (by omega) (by omega) (by omega) (by omega) f110 f111 f112 f113 (yU.str f114) he) e107 f110 (by decide) rfl (hM rfl) [] (rest := []) pd16 rfl rfl rfl rfl rfl (Q 16)) ?_
 rintro T115 _ _ h115 X115 e115 ⟨rfl, N115q, K115, E115, Fa115, Fb115, Fc115⟩
 have zK115 := K115.1
 have N115 := Fr.app N107 N115q
 refine yA (fun _ z_ => qA X115 (Q 17) rfl ((if0 _ _).trans (feq (by decide)).1) z_) ?_
 have zo := newO X115 hx hZ hown (W 126) (W 127) (W 128) e115 (g := (mkF m 36 #[rv a1, iv (ofNat ln), rv b105, .unset, .unset] [])) rfl (Q 18).2 (by decide) (by decide)
 obtain ⟨T116, h116, X116, e116, E116, A116, D116, -, st116⟩ := zo
 have zo : ∃ z, z = h115.size := ⟨_, rfl⟩
 obtain ⟨b116, g116⟩ := zo
 rw [← g116] at A116 D116 st116
 have K116 : Keep h115 h116 [] := (Keep.refl _ _).ext E116
 have l116 : b116 < h116.size := A116.lt
 refine yA st116 ?_
 have zK116 := K116.1
 refine yA (fun _ z_ => qJ X116 (Q 19) rfl rfl (yE X116 (Q 20) rfl (yC X116 (Q 21) rfl rfl (XS.aconstNull X116.here hx rfl (Q 22).2 z_)))) ?_
 have KK117 := yI (yF (Keep.refl h107 [a1]) K115) K116
 have O118 : Old Z n0 h116 := O108.keep KK117 (allS (by omega) all0)
 have F_line_b116 : Fld Z h116 b116 sN3 "line" "I" (.int (0 : Int32)) := D116 (Or.inr (W 168)) (ty := .int) (by decide)
 have F_fields_b116 : Fld Z h116 b116 sN3 "fields" sN22 .null := D116 (Or.inr (W 170)) (ty := (.object sN13)) (by decide)
 have F_fault_b116 : Fld Z h116 b116 sN3 "fault" sN9 .null := D116 (Or.inr (W 172)) (ty := (.object sN2)) (by decide)
 have f119 := (S107.keep KK117 (yB (by omega) nin0) (yB (by omega) nin0))
 refine yL (o_cI X116 hZ (y := mN24) rfl hown (W 129) (W 130) (W 131) (W 128) 1 (riA hw b116 b105 b105 mr em bE ([] : List Nat) (ofNat ln) .null _ _ _ O118 MM EM E0 rfl (by omega) (by omega) (by omega) (by decide) (fun r hr => nomatch hr) (fun r hr => nomatch hr) f119 A116 F_line_b116 F_fields_b116 F_fault_b116) e116 (by decide) rfl (hM rfl) (a := b116) [(.int (ofNat ln)), (.ref b105), .null] (rest := [(.ref b116)]) pd66 rfl rfl rfl rfl rfl (Q 23)) ?_
 rintro T120 _ _ h120 X120 e120 ⟨rfl, N120q, K120, S120⟩
 have zK120 := K120.1
 have N120 := Fr.app N115 N120q
 have E120 := S120.1
 have KK121 := yN (yI (yF (yN (yI (Keep.refl h0 [a1]) K105) K107) K115) K116) K120
 have KK122 := yN (yI (Keep.refl h115 []) K116) K120
 have f123 := (E115.keep KK122)
 have f124 := (Fa115.keep KK122 nin0)
 have f125 := (Fb115.keep KK122 nin0)
 have f126 := (Fc115.keep KK122 nin0)
 exact yW X120 hlk e120 hret rfl (uA rfl rfl) (Q 24) (by decide) ⟨N120, KK121, f123, f124, f125, f126, b116, rfl, S120⟩
theorem pd67 : parseMethodDescriptor "()Ljava/lang/String;" = some ⟨[], some (.object sN2)⟩ := by decide +kernel
theorem pd68 : parseMethodDescriptor "(Ljava/lang/Object;)Z" = some ⟨[(.object sN6)], some .boolean⟩ := by decide +kernel
theorem pd69 : parseMethodDescriptor "(Ljava/lang/StringBuilder;)Z" = some ⟨[(.object sN14)], some .boolean⟩ := by decide +kernel
abbrev nxRR : Room := { frames := 10, cells := 32, slots := 1303, locals := 153 }
theorem nxR (hw : yQ a0 Z) (a1 t1 tb D mr em bE : Nat) (cs : List Int32) (a ln : Nat) (fs : List (List Int32)) (fe ae le : Nat) (O0 : Old Z n0 h0) (CS : uE Z) (FM : uQ Z) (FI : o_FMI Z) (UT : uB Z) (DE : o_DE Z D) (MM : o_MM Z sN8 mr) (EM : o_EM Z em) (E0 : o_E0 Z bE) (hk : cs.length ≤ 20) (hln : ln ≤ 100) (g1 : n0 ≤ a1) (d3 : t1 ≠ a1) (d6 : tb ≠ a1) (E1 : Exa Z h0 a1 sN1) (F1 : Fld Z h0 a1 sN1 "m_text" sN9 (.ref t1)) (F2 : Fld Z h0 a1 sN1 "m_at" "I" (.int (ofNat a))) (F3 : Fld Z h0 a1 sN1 "m_line" "I" (.int (ofNat ln))) (S1 : yU Z h0 t1 tb cs) (hal : a < cs.length) (hne : ¬ qR cs a) (hP0 : uC cs 3 a ln 0 = (fs, fe, ae, le)) (hfe : fe ≤ 2) (hfl : ∀ f ∈ fs, f.length < 16) :
 o_CW l Z mN1 prog_4_method_4_code 5 (some (.object sN3)) [] nxRR #[(.ref a1)] h0 (fun v h L => Fr n0 L ∧ Keep h0 h [a1] ∧ Exa Z h a1 sN1 ∧ Fld Z h a1 sN1 "m_text" sN9 (.ref t1) ∧ Fld Z h a1 sN1 "m_at" "I" (.int (ofNat ae)) ∧ Fld Z h a1 sN1 "m_line" "I" (.int (ofNat le)) ∧ ∃ (x s_ t_ : Nat) (rs ts : List Nat) (fv : Value), v = some (.ref x) ∧ o_Row Z h n0 x (ofNat ln) rs fv ∧ uX Z h fv fe s_ t_ ∧ qT Z h rs ts fs) := by
 refine o_bodyW (plainFor_of_name pd21) ?_
 intro p e s m below meth c T0 X0 hx hby hml hZ hown hnm hret hlk e0 hS CR
 have hM := @qK _ _ hml
 have hEL := o_hEL hw
 have W := qC hw
 have Q := @yR p c _ _ _ hx hby d15
 have N0 := Fr.nil n0
 have zO := yM O0
 have hlt1 := S1.lt
 have la1 : a1 < h0.size := E1.lt
 have hbT : ∀ c ∈ cs, ¬ c < 0 ∧ ¬ (65535 : Int32) < c := by obtain ⟨-, _, _, _, _, -, -, -, -, q, -⟩ := id S1; exact q
 refine o_efW 4 rfl rfl ?_
 refine qO m 0 #[rv a1, .unset, .unset, .unset, .unset] [] ?_
 refine yD (fun _ z_ => yC X0 (Q 0) rfl rfl z_) ?_
 refine o_o1W (yV X0 hZ hown (W 43) e0 F1 rfl rfl (Q 1)) ?_
 intro T101 X101 e101
 refine qI (qZ X101 hZ (y := mN5) hown (W 80) (W 81) (W 83) (W 82) (W 84) (W 10) 0 (sln hw t1 cs O0 CS hk (yU.str S1)) e101 S1.1 (by decide) rfl (hM rfl) [] (rest := []) pd19 rfl rfl rfl rfl rfl (Q 2)) ?_
 rintro T102 _ _ h102 X102 e102 ⟨rfl, N102q, hq102⟩
 replace e102 := e102.trans hq102
 have N102 := Fr.app N0 N102q
 refine qO m 7 #[rv a1, .unset, .unset, .unset, .unset] [(.int (ofNat cs.length))] ?_
 refine yD (fun _ z_ => yC X102 (Q 3) rfl rfl z_) ?_
 refine o_o1W (yV X102 hZ hown (W 73) e102 F2 rfl rfl (Q 4)) ?_
 intro T103 X103 e103
 refine yD (fun _ z_ => qG X103 11 16 rfl (Q 5) rfl (tlt ((qP (by omega) (by omega)).mpr hal)).2.2.1 (by decide) (yC X103 (Q 8) rfl rfl z_)) ?_
 refine o_o1W (yV X103 hZ hown (W 41) e103 F3 rfl rfl (Q 9)) ?_
 intro T104 X104 e104
 refine yD (fun _ z_ => XS.istoreN X104.here hx rfl (Q 10).2 rfl rfl z_) ?_
 have zo := newO X104 hx hZ hown (W 90) (W 91) (W 92) e104 (g := (mkF m 21 #[rv a1, iv (ofNat ln), .unset, .unset, .unset] [])) rfl (Q 11).2 (by decide) (by decide)
 obtain ⟨T105, h105, X105, e105, E105, A105, D105, -, st105⟩ := zo
 have zo : ∃ z, z = h0.size := ⟨_, rfl⟩
 obtain ⟨b105, g105⟩ := zo
 rw [← g105] at A105 D105 st105
 have K105 : Keep h0 h105 [] := (Keep.refl _ _).ext E105
 have l105 : b105 < h105.size := A105.lt
 refine yD st105 ?_
 have zK105 := K105.1
 refine yD (fun _ z_ => qJ X105 (Q 12) rfl rfl z_) ?_
 have O106 : Old Z n0 h105 := O0.keep K105 all0
 have F_modCount_b105 : Fld Z h105 b105 sN16 sN23 "I" (.int (0 : Int32)) := D105 (Or.inl (W 110)) (ty := .int) (by decide)
 have F_size_b105 : Fld Z h105 b105 sN7 "size" "I" (.int (0 : Int32)) := D105 (Or.inl (W 162)) (ty := .int) (by decide)
 have F_elementData_b105 : Fld Z h105 b105 sN7 sN20 sN8 .null := D105 (Or.inl (W 113)) (ty := (.array (.object sN6))) (by decide)
 refine qI (o_cI X105 hZ (y := mN53) rfl hown (W 93) (W 94) (W 95) (W 92) 1 (alI hw b105 D _ _ O106 DE (by omega) A105 F_modCount_b105 F_size_b105 F_elementData_b105) e105 (by decide) rfl (hM rfl) (a := b105) [] (rest := [(.ref b105)]) pd33 rfl rfl rfl rfl rfl (Q 13)) ?_
 rintro T107 _ _ h107 X107 e107 ⟨rfl, N107q, K107, S107⟩
 have zK107 := K107.1
 have N107 := Fr.app N102 N107q
 have E107 := S107.1
 refine yD (fun _ z_ => XS.astoreN X107.here hx rfl (Q 14).2 rfl rfl rfl (yC X107 (Q 15) rfl rfl z_)) ?_
 have O108 : Old Z n0 h107 := O106.keep K107 (allS (by omega) all0)
 have KK109 := yN (yI (Keep.refl h0 []) K105) K107
 have f110 := (E1.keep KK109)
 have f111 := (F1.keep KK109 nin0)
 have f112 := (F2.keep KK109 nin0)
 have f113 := (F3.keep KK109 nin0)
 have f114 := (S1.keep KK109 nin0 nin0)
 refine qI (o_cP X107 hZ (y := mN16) hown (W 114) (W 115) (o_NIi (W 6)) (W 116) (W 117) (W 7) 0 (eo0 hw a1 t1 cs a ln O108 CS FM UT hk (by omega) (by omega) (by omega) (by omega) f110 f111 f112 f113 (yU.str f114) hne) e107 f110 (by decide) rfl (hM rfl) [] (rest := []) pd16 rfl rfl rfl rfl rfl (Q 16)) ?_
 rintro T115 _ _ h115 X115 e115 ⟨rfl, N115q, hq115⟩
 replace e115 := e115.trans hq115
 have N115 := Fr.app N107 N115q
 refine yD (fun _ z_ => qF X115 33 47 rfl (Q 17) rfl ((if0 _ _).trans (teq (by decide)).1) (by decide) (XS.aconstNull X115.here hx rfl (Q 25).2 (XS.astoreN X115.here hx rfl (Q 26).2 rfl rfl rfl z_))) ?_
 suffices G116 : ∀ (r : Nat) (Tj : State) (Lj : List Loc) (hR116 : Heap) (vmR116 : Vm) (kR116 : Nat) (fu u lj y s_ t_ fc cl sl : Nat) (fv : Value) (rs ts : List Nat) (fd fr : List (List Int32)) (sl4 : Slot), (fu = r) → (Keep h107 hR116 [a1, b105]) → (Exa Z hR116 a1 sN1) → (Fld Z hR116 a1 sN1 "m_text" sN9 (.ref t1)) → (Fld Z hR116 a1 sN1 "m_at" "I" (.int (ofNat u))) → (Fld Z hR116 a1 sN1 "m_line" "I" (.int (ofNat lj))) → (o_AL Z hR116 b105 y rs) → (qT Z hR116 rs ts fd) → (uX Z hR116 fv fc s_ t_) → (y = b105 ∨ Array.size h107 ≤ y) → (fv.isRef = true) → (o_nd a1 b105 y (Array.size hR116) s_ t_) → (∀ r ∈ rs ++ ts, Array.size h107 ≤ r ∧ r < Array.size hR116 ∧ r ≠ y) → (u ≤ cs.length ∧ lj + 20 * fu ≤ 160) → (uC cs fu u lj fc = (fr, fe, ae, le)) → (fs = fd ++ fr) → (rs.length + fu = 3) → (cl + 9 * fu ≤ 28 ∧ sl + 350 * fu ≤ 1053) → (sl4 = .unset ∨ ∃ w, sl4 = .val w ∧ w.category = 1) → (s.Since vmR116 kR116) → (kR116 ≤ Array.size hR116) → (Z.Warmed39 (s.setVm vmR116).vm) → ((s.setVm vmR116).vm.findClass sN1 = some m.cls) → (CHr Z uO s.vm h0 vmR116 hR116) → Stand p l e nxRR (s.setVm vmR116) m #[(.ref a1)] below meth c Tj Lj cl sl → Tj.heap = hR116 → Fr n0 Lj → qV p e below s Z h0 (fun v h L => Fr n0 L ∧ Keep h0 h [a1] ∧ Exa Z h a1 sN1 ∧ Fld Z h a1 sN1 "m_text" sN9 (.ref t1) ∧ Fld Z h a1 sN1 "m_at" "I" (.int (ofNat ae)) ∧ Fld Z h a1 sN1 "m_line" "I" (.int (ofNat le)) ∧ ∃ (x s_ t_ : Nat) (rs ts : List Nat) (fv : Value), v = some (.ref x) ∧ o_Row Z h n0 x (ofNat ln) rs fv ∧ uX Z h fv fe s_ t_ ∧ qT Z h rs ts fs) nxRR.cells nxRR.slots (Tj.setTop (mkF m 49 #[rv a1, iv (ofNat ln), rv b105, .val fv, sl4] [])) by
  have FV0 : uX Z h107 .null 0 t1 tb := Or.inl ⟨rfl, rfl⟩
  have CR300 := CR.trans (CHr.keep KK109 all0 CR.1)
  exact G116 _ _ _ _ _ _ 3 a ln b105 t1 tb 0 1 3 .null [] [] [] fs _ rfl (o_keepW (Keep.refl h107 []) (by simp)) f110 f111 f112 f113 S107 trivial FV0 (Or.inl rfl) rfl (o_ndi ⟨⟨by omega, by omega⟩, ⟨by omega, by omega⟩, ⟨by omega, by omega⟩, by omega, by omega⟩) (fun r hr => nomatch hr) (by omega) hP0 rfl rfl (by omega) (Or.inl rfl) hS (by omega) hZ hown CR300 (X115.more (by omega : 1 ≤ 1) (by omega : 3 ≤ 3)) e115 N115
 intro r
 induction r using Nat.strongRecOn with
 | _ r ih =>
  intro TG116 LG116 hR116 vmR116 kR116 fu u lj y s_ t_ fc cl sl fv rs ts fd fr sl4 hm KR116 Ec Lf0 Lf1 Lf2 Sal Sfs Sfv hzy hfv hsd hbr hux hP hfs hfu hcl hsl4 hS hkR116 hZ hown CR116 XG116 eG116 NG116
  have zKR116 := KR116.1
  obtain ⟨fq, rfl⟩ : ∃ k, fu = k + 1 := by
   cases fu with
   | zero => rw [uC] at hP; simp only [Prod.mk.injEq] at hP; omega
   | succ k => exact ⟨k, rfl⟩
  have lsA := Sal.lt
  have EA := Sal.1
  have sfy_ : Safe Z uO vmR116 hR116 y := o_AL.safe hZ.alike Sal
  have G117 : ∀ (Tj : State) (Lj : List Loc) (hR117 : Heap) (vmR117 : Vm) (kR117 : Nat) (u2 l2 s2 t2 fc2 x t : Nat) (kx : ClassId) (f : List Int32) (fw : Value), (Keep hR116 hR117 [a1]) → (Exa Z hR117 a1 sN1) → (Fld Z hR117 a1 sN1 "m_text" sN9 (.ref t1)) → (Fld Z hR117 a1 sN1 "m_at" "I" (.int (ofNat u2))) → (Fld Z hR117 a1 sN1 "m_line" "I" (.int (ofNat l2))) → (uM Z hR117 x t kx f) → (uX Z hR117 fw fc2 s2 t2) → (fw.isRef = true) → (o_nd a1 b105 y (Array.size hR117) s2 t2) → (u2 ≤ cs.length ∧ l2 + 20 * fq ≤ 160) → (o_tl cs (uC cs fq) f u2 l2 fc2 = (fr, fe, ae, le)) → (s.Since vmR117 kR117) → (kR117 ≤ Array.size hR117) → (Z.Warmed39 (s.setVm vmR117).vm) → ((s.setVm vmR117).vm.findClass sN1 = some m.cls) → (CHr Z uO s.vm h0 vmR117 hR117) → Stand p l e nxRR (s.setVm vmR117) m #[(.ref a1)] below meth c Tj Lj (cl + 6) (sl + 250) → Tj.heap = hR117 → Fr n0 Lj → qV p e below s Z h0 (fun v h L => Fr n0 L ∧ Keep h0 h [a1] ∧ Exa Z h a1 sN1 ∧ Fld Z h a1 sN1 "m_text" sN9 (.ref t1) ∧ Fld Z h a1 sN1 "m_at" "I" (.int (ofNat ae)) ∧ Fld Z h a1 sN1 "m_line" "I" (.int (ofNat le)) ∧ ∃ (x s_ t_ : Nat) (rs ts : List Nat) (fv : Value), v = some (.ref x) ∧ o_Row Z h n0 x (ofNat ln) rs fv ∧ uX Z h fv fe s_ t_ ∧ qT Z h rs ts fs) nxRR.cells nxRR.slots (Tj.setTop (mkF m 156 #[rv a1, iv (ofNat ln), rv b105, .val fw, rv x] [])) := by
   intro TG117 LG117 hR117 vmR117 kR117 u2 l2 s2 t2 fc2 x t kx f fw KR117 Ec2 Lf0x Lf1x Lf2x Sx Sfw hfw hse huy hT hS hkR117 hZ hown CR117 XG117 eG117 NG117
   have zKR117 := KR117.1
   have lsx := Sx.lt
   have Ex := Sx.1
   have hff : f.length < 16 := hfl f (by rw [hfs]; exact List.mem_append_right _ (o_tlf hT))
   have f118 := (Sal.keep KR117 (yB (by omega) nin0) (yB (by omega) nin0))
   have sfy_ : Safe Z uO vmR117 hR117 y := o_AL.safe hZ.alike f118
   refine yD (fun _ z_ => yC XG117 (Q 27) rfl rfl (qN XG117 (Q 28) rfl rfl z_)) ?_
   have KK119 := yF (uP (Keep.refl h107 [a1, b105]) KR116) KR117
   have O120 : Old Z n0 hR117 := O108.keep KK119 (allS (by omega) (allS (by omega) all0))
   refine qI (o_callV XG117 hx hZ (y := mN21) (z := mN21) hown (W 275) (W 276) (notFace_of_selects (args := #[]) (mvT hZ (W 278))) (W 278) (W 277) (by decide) (qY (W := 1) (tsW hw x t kx f O120 CS hff Sx) hZ (W 279) (W 205) (by decide) (by decide)) eG117 Ex (Nat.le_trans (by omega : (cl + 6) + 2 ≤ 32) (by decide)) (Nat.le_trans (by omega : (sl + 250) + 44 ≤ 1303) (by decide)) rfl (hM rfl) (argsL := []) (rest := [(.ref b105)]) (lenOf pd67 rfl) rfl rfl (qE rfl rfl) (Q 29).2) ?_
   rintro T121 _ _ h121 X121 e121 ⟨N121q, b121, t121, rfl, K121, zb121, zt121, S121⟩
   have zK121 := K121.1
   have N121 := Fr.app NG117 N121q
   have E121 := S121.1
   have ls121 := S121.lt
   refine qO m 162 #[rv a1, iv (ofNat ln), rv b105, .val fw, rv x] [(.ref b121), (.ref b105)] ?_
   have O122 : Old Z n0 h121 := O120.keep K121 all0
   have f123 := (f118.keep K121 nin0 nin0)
   have KK125 := yI (yF (Keep.refl hR116 [a1]) KR117) K121
   have f126 := (EA.keep KK125)
   refine qI (o_callV X121 hx hZ (y := mN22) (z := mN22) hown (W 316) (W 317) (notFace_of_selects (args := #[]) (mvT hZ (W 319))) (W 319) (W 318) (by decide) (qY (W := 0) (adW0 hw b105 y b121 D rs O122 DE (by omega) (by omega) (by omega) E121 f123) hZ (W 320) (W 92) (by decide) (by decide)) e121 f126 (Nat.le_trans (by omega : (cl + 8) + 1 ≤ 32) (by decide)) (Nat.le_trans (by omega : (sl + 294) + 10 ≤ 1303) (by decide)) rfl (hM rfl) (argsL := [(.ref b121)]) (rest := []) (lenOf pd68 rfl) rfl rfl (qE rfl rfl) (Q 30).2) ?_
   rintro T124 _ _ h124 X124 e124 ⟨rfl, N124q, K124, y124, zy124, S124⟩
   have zK124 := K124.1
   have N124 := Fr.app N121 N124q
   have ls124 := S124.lt
   have E124 := S124.1
   refine yD (fun _ z_ => XS.pop X124.here hx rfl (Q 31).2 rfl rfl (yC X124 (Q 32) rfl rfl (yY X124 (Q 33) z_))) ?_
   have O127 : Old Z n0 h124 := O122.keep K124 (allS (by omega) (allS (by omega) all0))
   have KK128 := uP (yI (Keep.refl hR117 [b105, y]) K121) K124
   have f129 := (Ec2.keep KK128)
   have f130 := (Lf0x.keep KK128 (yB (by omega) (yB (by omega) nin0)))
   have f131 := (Lf1x.keep KK128 (yB (by omega) (yB (by omega) nin0)))
   have KK132 := (yI (yF (uP (Keep.refl h107 [a1, b105]) KR116) KR117) K121).trans K124 (allS (Or.inl (by simp)) (allS (o_orA (by omega : y = b105 ∨ Array.size h107 ≤ y) (by simp)) all0))
   have f133 := (f114.keep KK132 (yB (by omega) (yB (by omega) nin0)) (yB (by omega) (yB (by omega) nin0)))
   refine qI (o_callP X124 hx hZ (y := mN10) hown (W 122) (W 123) (o_selP (o_NIi (W 6)) (W 123) (W 124) (by decide)) (W 124) (W 125) (by decide) (qY (W := 0) (atW hw a1 t1 cs u2 (44 : Int32) O127 CS FM UT hk (by omega) f129 f130 f131 (yU.str f133)) hZ (W 125) (W 7) (by decide) (by decide)) e124 f129 (Nat.le_trans (by omega : (cl + 9) + 0 ≤ 32) (by decide)) (Nat.le_trans (by omega : (sl + 304) + 0 ≤ 1303) (by decide)) rfl (hM rfl) (argsL := [(.int (44 : Int32))]) (rest := []) (lenOf pd22 rfl) rfl rfl (qE rfl rfl) (Q 34).2) ?_
   rintro T134 _ _ h134 X134 e134 ⟨rfl, N134q, hq134⟩
   replace e134 := e134.trans hq134
   have N134 := Fr.app N124 N134q
   by_cases c135 : (if qX cs u2 (44 : Int32) then (1 : Int32) else 0) = (0 : Int32)
   · refine yD (fun _ z_ => qF X134 172 188 rfl (Q 35) rfl ((if0 _ _).trans (teq c135).1) (by decide) (yC X134 (Q 36) rfl rfl z_)) ?_
     have zo := Classical.em (qR cs u2)
     rcases zo with hel | hnl
     · refine qO m 189 #[rv a1, iv (ofNat ln), rv b105, .val fw, rv x] [(.ref a1)] ?_
       have f136 := (Lf2x.keep KK128 (yB (by omega) (yB (by omega) nin0)))
       refine qI (o_callP X134 hx hZ (y := mN16) hown (W 114) (W 115) (o_selP (o_NIi (W 6)) (W 115) (W 116) (by decide)) (W 116) (W 117) (by decide) (qY (W := 0) (eo1 hw a1 t1 cs u2 l2 O127 CS FM UT hk (by omega) (by omega) (by omega) (by omega) f129 f130 f131 f136 (yU.str f133) hel) hZ (W 117) (W 7) (by decide) (by decide)) e134 f129 (Nat.le_trans (by omega : (cl + 9) + 0 ≤ 32) (by decide)) (Nat.le_trans (by omega : (sl + 304) + 0 ≤ 1303) (by decide)) rfl (hM rfl) (argsL := []) (rest := []) (lenOf pd16 rfl) rfl rfl (qE rfl rfl) (Q 37).2) ?_
       rintro T137 _ _ h137 X137 e137 ⟨rfl, N137q, K137, E137, Fa137, Fb137, Fc137⟩
       have zK137 := K137.1
       have N137 := Fr.app N134 N137q
       refine yD (fun _ z_ => XS.pop X137.here hx rfl (Q 38).2 rfl rfl z_) ?_
       have zo := newO X137 hx hZ hown (W 126) (W 127) (W 128) e137 (g := (mkF m 193 #[rv a1, iv (ofNat ln), rv b105, .val fw, rv x] [])) rfl (Q 39).2 (Nat.le_trans (by omega : (cl + 9) + 1 ≤ 32) (by decide)) (Nat.le_trans (by omega : (sl + 304) + 3 ≤ 1303) (by decide))
       obtain ⟨T138, h138, X138, e138, E138, A138, D138, -, st138⟩ := zo
       have zo : ∃ z, z = h137.size := ⟨_, rfl⟩
       obtain ⟨b138, g138⟩ := zo
       rw [← g138] at A138 D138 st138
       have K138 : Keep h137 h138 [] := (Keep.refl _ _).ext E138
       have l138 : b138 < h138.size := A138.lt
       refine yD st138 ?_
       have zK138 := K138.1
       refine yD (fun _ z_ => qJ X138 (Q 40) rfl rfl (yE X138 (Q 41) rfl (yC X138 (Q 42) rfl rfl (yC X138 (Q 43) rfl hfw z_)))) ?_
       have KK139 := yI (yF (Keep.refl h124 [a1]) K137) K138
       have O140 : Old Z n0 h138 := O127.keep KK139 (allS (by omega) all0)
       have KK141 := yI (yF (uP (Keep.refl h121 [b105, y, a1]) K124) K137) K138
       have f142 := (S121.keep KK141 (yB (by omega) (yB (by omega) (yB (by omega) nin0))) (yB (by omega) (yB (by omega) (yB (by omega) nin0))))
       have KK143 := yI (yF (uP (yI (yF (Keep.refl hR116 [a1, b105, y]) KR117) K121) K124) K137) K138
       have f144 := (qT.keep KK143 Sfs (allS (fun r_ hr_ => by have q_ := hbr r_ hr_; omega) (allS (fun r_ hr_ => by have q_ := hbr r_ hr_; omega) (allS (fun r_ hr_ => by have q_ := hbr r_ hr_; omega) all0))))
       have F_line_b138 : Fld Z h138 b138 sN3 "line" "I" (.int (0 : Int32)) := D138 (Or.inr (W 168)) (ty := .int) (by decide)
       have F_fields_b138 : Fld Z h138 b138 sN3 "fields" sN22 .null := D138 (Or.inr (W 170)) (ty := (.object sN13)) (by decide)
       have F_fault_b138 : Fld Z h138 b138 sN3 "fault" sN9 .null := D138 (Or.inr (W 172)) (ty := (.object sN2)) (by decide)
       have f145 := (S124.keep KK139 (yB (by omega) nin0) (yB (by omega) nin0))
       refine qI (o_callI X138 hx hZ (y := mN24) rfl hown (W 129) (W 130) (W 131) (by decide) (qY (W := 1) (riA hw b138 b105 y124 mr em bE (rs ++ [b121]) (ofNat ln) fw _ _ _ O140 MM EM E0 hfw (by omega) (by omega) (by omega) (by rw [List.length_append, List.length_singleton]; omega) (qT.exa (qT.snoc f142 f144)) (o_hb1 (fun r hr => by have q_ := hbr r (List.mem_append_left _ hr); omega) (by omega)) f145 A138 F_line_b138 F_fields_b138 F_fault_b138) hZ (W 131) (W 128) (by decide) (by decide)) e138 (Nat.le_trans (by omega : (cl + 10) + 3 ≤ 32) (by decide)) (Nat.le_trans (by omega : (sl + 307) + 15 ≤ 1303) (by decide)) rfl (hM rfl) (a := b138) (argsL := [(.int (ofNat ln)), (.ref b105), fw]) (rest := [(.ref b138)]) (lenOf pd66 rfl) rfl rfl (qE rfl rfl) (Q 44).2) ?_
       rintro T146 _ _ h146 X146 e146 ⟨rfl, N146q, K146, S146⟩
       have zK146 := K146.1
       have N146 := Fr.app N137 N146q
       have E146 := S146.1
       have KK147 := yN (yI (Keep.refl h137 []) K138) K146
       have f148 := (Fa137.keep KK147 nin0)
       have f149 := (Fb137.keep KK147 nin0)
       have f150 := (Fc137.keep KK147 nin0)
       have f151 := (f142.keep K146 (yB (by omega) nin0) (yB (by omega) nin0))
       have f152 := (qT.keep K146 f144 (allS (fun r_ hr_ => by have q_ := hbr r_ hr_; omega) all0))
       have KK153 := yN (yI (yF ((yI (yF ((yN (yI (Keep.refl h0 [a1]) K105) K107).trans KR116 (allS (Or.inl (by simp)) (allS (Or.inr (by omega)) all0))) KR117) K121).trans K124 (allS (Or.inr (by omega)) (allS (Or.inr (by omega)) all0))) K137) K138) K146
       have f154 := (E137.keep KK147)
       have zo := o_tl2 hT (o_ifF c135) hel
       obtain ⟨hfr, hfe_, hae, hle⟩ := zo
       have KK155 := yN (yI (yF (uP (yI (Keep.refl hR117 [b105, y, a1]) K121) K124) K137) K138) K146
       have f156 := (Sfw.keep KK155 (yB hse.2.1.1 (yB hse.2.2.1.1 (yB hse.1.1 nin0))) (yB hse.2.1.2 (yB hse.2.2.1.2 (yB hse.1.2 nin0))))
       have CR157 := CR117.trans (CHr.keep KK155 (allS (Safe.exa hZ.alike (EA.keep KR117) (by decide) (by decide)) (allS sfy_ (allS (Safe.exa hZ.alike Ec2 (by decide) (by decide)) all0))) CR117.1)
       exact o_retW X146 hx hlk e146 hZ hEL hS (by omega) CR157 hret rfl (uA rfl rfl) (Q 45).2 (Nat.le_trans (by omega : (cl + 13) ≤ 32) (by decide)) (Nat.le_trans (by omega : (sl + 322) ≤ 1303) (by decide)) ⟨N146, KK153, f154, f148, (by rw [hae]; exact f149), (by rw [hle]; exact f150), b138, s2, t2, _, _, fw, rfl, S146, (by rw [hfe_]; exact f156), (by rw [hfs, hfr]; exact (qT.snoc f151 f152))⟩
     · refine qO m 189 #[rv a1, iv (ofNat ln), rv b105, .val fw, rv x] [(.ref a1)] ?_
       have f158 := (Lf2x.keep KK128 (yB (by omega) (yB (by omega) nin0)))
       refine qI (o_callP X134 hx hZ (y := mN16) hown (W 114) (W 115) (o_selP (o_NIi (W 6)) (W 115) (W 116) (by decide)) (W 116) (W 117) (by decide) (qY (W := 0) (eo0 hw a1 t1 cs u2 l2 O127 CS FM UT hk (by omega) (by omega) (by omega) (by omega) f129 f130 f131 f158 (yU.str f133) hnl) hZ (W 117) (W 7) (by decide) (by decide)) e134 f129 (Nat.le_trans (by omega : (cl + 9) + 0 ≤ 32) (by decide)) (Nat.le_trans (by omega : (sl + 304) + 0 ≤ 1303) (by decide)) rfl (hM rfl) (argsL := []) (rest := []) (lenOf pd16 rfl) rfl rfl (qE rfl rfl) (Q 37).2) ?_
       rintro T159 _ _ h159 X159 e159 ⟨rfl, N159q, hq159⟩
       replace e159 := e159.trans hq159
       have N159 := Fr.app N134 N159q
       refine yD (fun _ z_ => XS.pop X159.here hx rfl (Q 38).2 rfl rfl z_) ?_
       have zo := newO X159 hx hZ hown (W 126) (W 127) (W 128) e159 (g := (mkF m 193 #[rv a1, iv (ofNat ln), rv b105, .val fw, rv x] [])) rfl (Q 39).2 (Nat.le_trans (by omega : (cl + 9) + 1 ≤ 32) (by decide)) (Nat.le_trans (by omega : (sl + 304) + 3 ≤ 1303) (by decide))
       obtain ⟨T160, h160, X160, e160, E160, A160, D160, -, st160⟩ := zo
       have zo : ∃ z, z = h124.size := ⟨_, rfl⟩
       obtain ⟨b160, g160⟩ := zo
       rw [← g160] at A160 D160 st160
       have K160 : Keep h124 h160 [] := (Keep.refl _ _).ext E160
       have l160 : b160 < h160.size := A160.lt
       refine yD st160 ?_
       have zK160 := K160.1
       refine yD (fun _ z_ => qJ X160 (Q 40) rfl rfl (yE X160 (Q 41) rfl (yC X160 (Q 42) rfl rfl (yC X160 (Q 43) rfl hfw z_)))) ?_
       have O161 : Old Z n0 h160 := O127.keep K160 all0
       have KK162 := yI (uP (Keep.refl h121 [b105, y]) K124) K160
       have f163 := (S121.keep KK162 (yB (by omega) (yB (by omega) nin0)) (yB (by omega) (yB (by omega) nin0)))
       have KK164 := yI (uP (yI (yF (Keep.refl hR116 [a1, b105, y]) KR117) K121) K124) K160
       have f165 := (qT.keep KK164 Sfs (allS (fun r_ hr_ => by have q_ := hbr r_ hr_; omega) (allS (fun r_ hr_ => by have q_ := hbr r_ hr_; omega) (allS (fun r_ hr_ => by have q_ := hbr r_ hr_; omega) all0))))
       have F_line_b160 : Fld Z h160 b160 sN3 "line" "I" (.int (0 : Int32)) := D160 (Or.inr (W 168)) (ty := .int) (by decide)
       have F_fields_b160 : Fld Z h160 b160 sN3 "fields" sN22 .null := D160 (Or.inr (W 170)) (ty := (.object sN13)) (by decide)
       have F_fault_b160 : Fld Z h160 b160 sN3 "fault" sN9 .null := D160 (Or.inr (W 172)) (ty := (.object sN2)) (by decide)
       have f166 := (S124.keep K160 nin0 nin0)
       refine qI (o_callI X160 hx hZ (y := mN24) rfl hown (W 129) (W 130) (W 131) (by decide) (qY (W := 1) (riA hw b160 b105 y124 mr em bE (rs ++ [b121]) (ofNat ln) fw _ _ _ O161 MM EM E0 hfw (by omega) (by omega) (by omega) (by rw [List.length_append, List.length_singleton]; omega) (qT.exa (qT.snoc f163 f165)) (o_hb1 (fun r hr => by have q_ := hbr r (List.mem_append_left _ hr); omega) (by omega)) f166 A160 F_line_b160 F_fields_b160 F_fault_b160) hZ (W 131) (W 128) (by decide) (by decide)) e160 (Nat.le_trans (by omega : (cl + 10) + 3 ≤ 32) (by decide)) (Nat.le_trans (by omega : (sl + 307) + 15 ≤ 1303) (by decide)) rfl (hM rfl) (a := b160) (argsL := [(.int (ofNat ln)), (.ref b105), fw]) (rest := [(.ref b160)]) (lenOf pd66 rfl) rfl rfl (qE rfl rfl) (Q 44).2) ?_
       rintro T167 _ _ h167 X167 e167 ⟨rfl, N167q, K167, S167⟩
       have zK167 := K167.1
       have N167 := Fr.app N159 N167q
       have E167 := S167.1
       have KK168 := yN (yI (Keep.refl h124 []) K160) K167
       have f169 := (f130.keep KK168 nin0)
       have f170 := (f131.keep KK168 nin0)
       have f171 := (f158.keep KK168 nin0)
       have f172 := (f163.keep K167 (yB (by omega) nin0) (yB (by omega) nin0))
       have f173 := (qT.keep K167 f165 (allS (fun r_ hr_ => by have q_ := hbr r_ hr_; omega) all0))
       have KK174 := yN (yI ((yI (yF ((yN (yI (Keep.refl h0 [a1]) K105) K107).trans KR116 (allS (Or.inl (by simp)) (allS (Or.inr (by omega)) all0))) KR117) K121).trans K124 (allS (Or.inr (by omega)) (allS (Or.inr (by omega)) all0))) K160) K167
       have f175 := (f129.keep KK168)
       have zo := o_tl3 hT (o_ifF c135) hnl
       obtain ⟨hfr, hfe_, hae, hle⟩ := zo
       have KK176 := yN (yI (uP (yI (Keep.refl hR117 [b105, y]) K121) K124) K160) K167
       have f177 := (Sfw.keep KK176 (yB hse.2.1.1 (yB hse.2.2.1.1 nin0)) (yB hse.2.1.2 (yB hse.2.2.1.2 nin0)))
       have CR178 := CR117.trans (CHr.keep KK176 (allS (Safe.exa hZ.alike (EA.keep KR117) (by decide) (by decide)) (allS sfy_ all0)) CR117.1)
       exact o_retW X167 hx hlk e167 hZ hEL hS (by omega) CR178 hret rfl (uA rfl rfl) (Q 45).2 (Nat.le_trans (by omega : (cl + 13) ≤ 32) (by decide)) (Nat.le_trans (by omega : (sl + 322) ≤ 1303) (by decide)) ⟨N167, KK174, f175, f169, (by rw [hae]; exact f170), (by rw [hle]; exact f171), b160, s2, t2, _, _, fw, rfl, S167, (by rw [hfe_]; exact f177), (by rw [hfs, hfr]; exact (qT.snoc f172 f173))⟩
   · refine yD (fun _ z_ => qA X134 (Q 35) rfl ((if0 _ _).trans (feq c135).1) (yC X134 (Q 46) rfl rfl (qJ X134 (Q 47) rfl rfl z_))) ?_
     refine o_o1W (yV X134 hZ hown (W 73) e134 f131 rfl rfl (Q 48)) ?_
     intro T179 X179 e179
     refine yD (fun _ z_ => yH X179 (Q 49) (XS.iadd X179.here hx rfl (Q 50).2 rfl z_)) ?_
     refine qO m 182 #[rv a1, iv (ofNat ln), rv b105, .val fw, rv x] [(.int ((ofNat u2) + (1 : Int32))), (.ref a1)] ?_
     rw [show ((ofNat u2) + (1 : Int32)) = (ofNat (u2 + 1)) from (uD (b := 1) (by have q_ := (o_ifT c135).1; omega))]
     refine uY (putF X179 hx hZ hown (host := "") (Or.inl (W 73)) Via.refl e179 f131 f129 (Or.inl (W 74)) (W 6) (ty := .int) (by decide) rfl rfl rfl rfl (Q 51).2) ?_
     intro T180 h180 X180 e180 W180
     have F180 := f131.same W180
     have K180 := Keep.of_wr W180
     have N180 := Fr.snoc X180 N134 (by omega : n0 ≤ a1)
     have zK180 := K180.1
     refine yD (fun _ z_ => yT X180 185 204 rfl (Q 52) (by decide) (yT X180 204 49 rfl (Q 53) (by decide) z_)) ?_
     have f181 := (S124.keep K180 (yB (by omega) nin0) (yB (by omega) nin0))
     have KK182 := yF (uP (Keep.refl h121 [b105, y, a1]) K124) K180
     have f183 := (S121.keep KK182 (yB (by omega) (yB (by omega) (yB (by omega) nin0))) (yB (by omega) (yB (by omega) (yB (by omega) nin0))))
     have KK184 := yF (uP (yI (yF (Keep.refl hR116 [a1, b105, y]) KR117) K121) K124) K180
     have f185 := (qT.keep KK184 Sfs (allS (fun r_ hr_ => by have q_ := hbr r_ hr_; omega) (allS (fun r_ hr_ => by have q_ := hbr r_ hr_; omega) (allS (fun r_ hr_ => by have q_ := hbr r_ hr_; omega) all0))))
     have zo := o_tl1 hT (o_ifT c135)
     obtain ⟨fr', hfr, hP'⟩ := zo
     have f186 := (f129.keep K180)
     have f187 := (f130.other W180 (yS (Or.inr (W 44)) (Or.inl (W 74)) (by decide)))
     have KK188 := yF (uP (yI (Keep.refl hR117 [b105, y, a1]) K121) K124) K180
     have f189 := (((Lf2x.keep K121 nin0).keep K124 (yB (by omega) (yB (by omega) nin0))).other W180 (yS (Or.inl (W 42)) (Or.inl (W 74)) (by decide)))
     have f190 := (Sfw.keep KK188 (yB hse.2.1.1 (yB hse.2.2.1.1 (yB hse.1.1 nin0))) (yB hse.2.1.2 (yB hse.2.2.1.2 (yB hse.1.2 nin0))))
     have KK191 := yF ((yI (yF (uP (Keep.refl h107 [a1, b105]) KR116) KR117) K121).trans K124 (allS (Or.inl (by simp)) (allS (o_orA (by omega : y = b105 ∨ Array.size h107 ≤ y) (by simp)) all0))) K180
     have CR192 := CR117.trans (CHr.keep KK188 (allS (Safe.exa hZ.alike (EA.keep KR117) (by decide) (by decide)) (allS sfy_ (allS (Safe.exa hZ.alike Ec2 (by decide) (by decide)) all0))) CR117.1)
     exact ih _ (by omega) _ _ _ _ _ fq (u2 + 1) l2 y124 s2 t2 fc2 (cl + 9) (sl + 304) fw _ _ _ fr' _ rfl KK191 f186 f187 F180 f189 f181 (qT.snoc f183 f185) f190 (by omega) hfw (hse.step (by omega) (by omega)) (o_hb4 (fun r hr => by have q_ := hbr r hr; omega) (by omega) (by omega)) (by have q_ := (o_ifT c135).1; omega) hP' (by rw [hfs, hfr, List.append_assoc]; rfl) (by rw [List.length_append, List.length_singleton]; omega) (by omega) (Or.inr ⟨_, rfl, rfl⟩) hS (by omega) hZ hown CR192 (X180.more (by omega : (cl + 9) ≤ (cl + 9)) (by omega : (sl + 304) ≤ (sl + 304))) e180 N180
  have zo := newO XG116 hx hZ hown (W 203) (W 204) (W 205) eG116 (g := (mkF m 49 #[rv a1, iv (ofNat ln), rv b105, .val fv, sl4] [])) rfl (Q 54).2 (Nat.le_trans (by omega : cl + 1 ≤ 32) (by decide)) (Nat.le_trans (by omega : sl + 4 ≤ 1303) (by decide))
  obtain ⟨T193, h193, X193, e193, E193, A193, D193, -, st193⟩ := zo
  have zo : ∃ z, z = hR116.size := ⟨_, rfl⟩
  obtain ⟨b193, g193⟩ := zo
  rw [← g193] at A193 D193 st193
  have K193 : Keep hR116 h193 [] := (Keep.refl _ _).ext E193
  have l193 : b193 < h193.size := A193.lt
  refine yD st193 ?_
  have zK193 := K193.1
  refine yD (fun _ z_ => qJ X193 (Q 55) rfl rfl z_) ?_
  have KK194 := yI (uP (Keep.refl h107 [a1, b105]) KR116) K193
  have O195 : Old Z n0 h193 := O108.keep KK194 (allS (by omega) (allS (by omega) all0))
  have F_value_b193 : Fld Z h193 b193 sN4 "value" "[B" .null := D193 (Or.inl (W 218)) (ty := (.array .byte)) (by decide)
  have F_coder_b193 : Fld Z h193 b193 sN4 "coder" "B" (.int (0 : Int32)) := D193 (Or.inl (W 220)) (ty := .byte) (by decide)
  have F_count_b193 : Fld Z h193 b193 sN4 "count" "I" (.int (0 : Int32)) := D193 (Or.inl (W 248)) (ty := .int) (by decide)
  have F_maybeLatin1_b193 : Fld Z h193 b193 sN4 "maybeLatin1" "Z" (.int (0 : Int32)) := D193 (Or.inl (W 523)) (ty := .boolean) (by decide)
  refine qI (o_callI X193 hx hZ (y := (⟨sN14, "<init>", "()V"⟩ : MethodName)) rfl hown (W 206) (W 207) (W 208) (by decide) (qY (W := 1) (sbI0 hw b193 _ _ O195 CS (by omega) A193 F_value_b193 F_coder_b193 F_count_b193 F_maybeLatin1_b193) hZ (W 208) (W 205) (by decide) (by decide)) e193 (Nat.le_trans (by omega : (cl + 1) + 1 ≤ 32) (by decide)) (Nat.le_trans (by omega : (sl + 4) + 16 ≤ 1303) (by decide)) rfl (hM rfl) (a := b193) (argsL := []) (rest := [(.ref b193)]) (lenOf pd33 rfl) rfl rfl (qE rfl rfl) (Q 56).2) ?_
  rintro T196 _ _ h196 X196 e196 ⟨rfl, N196q, K196, t196, kb196, zt196, S196⟩
  have zK196 := K196.1
  have N196 := Fr.app NG116 N196q
  have ls196 := S196.lt
  have E196 := S196.1
  refine yD (fun _ z_ => XS.astoreS X196.here hx rfl (Q 57).2 rfl rfl rfl (o := sl4) rfl hsl4 (yC X196 (Q 58) rfl rfl (yY X196 (Q 59) z_))) ?_
  have O197 : Old Z n0 h196 := O195.keep K196 (allS (by omega) all0)
  have KK198 := yN (yI (Keep.refl hR116 []) K193) K196
  have f199 := (Ec.keep KK198)
  have f200 := (Lf0.keep KK198 nin0)
  have f201 := (Lf1.keep KK198 nin0)
  have KK202 := yN (yI (uP (Keep.refl h107 [a1, b105]) KR116) K193) K196
  have f203 := (f114.keep KK202 (yB (by omega) (yB (by omega) nin0)) (yB (by omega) (yB (by omega) nin0)))
  refine qI (o_callP X196 hx hZ (y := mN10) hown (W 122) (W 123) (o_selP (o_NIi (W 6)) (W 123) (W 124) (by decide)) (W 124) (W 125) (by decide) (qY (W := 0) (atW hw a1 t1 cs u (34 : Int32) O197 CS FM UT hk (by omega) f199 f200 f201 (yU.str f203)) hZ (W 125) (W 7) (by decide) (by decide)) e196 f199 (Nat.le_trans (by omega : (cl + 2) + 0 ≤ 32) (by decide)) (Nat.le_trans (by omega : (sl + 20) + 0 ≤ 1303) (by decide)) rfl (hM rfl) (argsL := [(.int (34 : Int32))]) (rest := []) (lenOf pd22 rfl) rfl rfl (qE rfl rfl) (Q 60).2) ?_
  rintro T204 _ _ h204 X204 e204 ⟨rfl, N204q, hq204⟩
  replace e204 := e204.trans hq204
  have N204 := Fr.app N196 N204q
  by_cases c205 : (if qX cs u (34 : Int32) then (1 : Int32) else 0) = (0 : Int32)
  · refine yD (fun _ z_ => qF X204 64 150 rfl (Q 61) rfl ((if0 _ _).trans (teq c205).1) (by decide) (yC X204 (Q 62) rfl rfl (qN X204 (Q 63) rfl rfl z_))) ?_
    refine qO m 153 #[rv a1, iv (ofNat ln), rv b105, .val fv, rv b193] [(.ref b193), (.ref a1)] ?_
    have hfd0 := o_fdU (ln := lj) (o_ifF c205)
    have hsl_ := o_ueL hux.1
    have hfl0 := hfl _ (by rw [hfs]; exact List.mem_append_right _ (o_tlf (o_rwN hP hfd0 (by decide))))
    rw [o_sll hsl_.1 hsl_.2] at hfl0
    have f206 := (Lf2.keep KK198 nin0)
    refine qI (o_callP X204 hx hZ (y := mN54) hown (W 221) (W 222) (o_selP (o_NIi (W 6)) (W 222) (W 223) (by decide)) (W 223) (W 224) (by decide) (qY (W := 0) (uqW hw a1 t1 tb b193 t196 kb196 cs ([] : List Int32) u lj O197 CS FM FI UT hk (by omega) (by omega) (by omega) (by omega) (by omega) (by omega) (by omega) (by omega) (by omega) (by omega) (by omega) (by omega) (by omega) f199 f200 f201 f206 f203 S196 (by show 0 + _ ≤ 16; omega) (fun ⟨_, hc, _⟩ => nomatch hc)) hZ (W 224) (W 7) (by decide) (by decide)) e204 f199 (Nat.le_trans (by omega : (cl + 2) + 1 ≤ 32) (by decide)) (Nat.le_trans (by omega : (sl + 20) + 40 ≤ 1303) (by decide)) rfl (hM rfl) (argsL := [(.ref b193)]) (rest := []) (lenOf pd39 rfl) rfl rfl (qE rfl rfl) (Q 64).2) ?_
    rintro T207 _ _ h207 X207 e207 ⟨rfl, N207q, K207, Ea207, Fa207, Fb207, Fc207, t207, kb207, zt207, S207⟩
    have zK207 := K207.1
    have N207 := Fr.app N204 N207q
    have ls207 := S207.lt
    have E207 := S207.1
    have hfd := o_fdU (ln := lj) (o_ifF c205)
    have hT' := o_rwN hP hfd (by decide)
    have KK208 := (yN (yI (Keep.refl hR116 [a1]) K193) K196).trans K207 (allS (Or.inl (by simp)) (allS (Or.inr (by omega)) (allS (Or.inr (by omega)) all0)))
    have f209 := (Sfv.keep KK208 (yB hsd.1.1 nin0) (yB hsd.1.2 nin0))
    have CR210 := CR116.trans (CHr.keep KK208 (allS (Safe.exa hZ.alike Ec (by decide) (by decide)) all0) CR116.1)
    exact G117 _ _ _ _ _ (uT cs u) lj s_ t_ fc b193 t207 _ _ fv KK208 Ea207 Fa207 Fb207 Fc207 S207 f209 hfv (hsd.mono (by omega)) (by omega) hT' hS (by omega) hZ hown CR210 (X207.more (by omega : (cl + 3) ≤ (cl + 6)) (by omega : (sl + 60) ≤ (sl + 250))) e207 N207
  · refine yD (fun _ z_ => qA X204 (Q 61) rfl ((if0 _ _).trans (feq c205).1) z_) ?_
    have hat := o_ifT c205
    have hul := hat.1
    refine yD (fun _ z_ => yC X204 (Q 65) rfl rfl (qJ X204 (Q 66) rfl rfl z_)) ?_
    refine o_o1W (yV X204 hZ hown (W 73) e204 f201 rfl rfl (Q 67)) ?_
    intro T211 X211 e211
    refine yD (fun _ z_ => yH X211 (Q 68) (XS.iadd X211.here hx rfl (Q 69).2 rfl z_)) ?_
    refine qO m 74 #[rv a1, iv (ofNat ln), rv b105, .val fv, rv b193] [(.int ((ofNat u) + (1 : Int32))), (.ref a1)] ?_
    rw [show ((ofNat u) + (1 : Int32)) = (ofNat (u + 1)) from (uD (b := 1) (by omega))]
    refine uY (putF X211 hx hZ hown (host := "") (Or.inl (W 73)) Via.refl e211 f201 f199 (Or.inl (W 74)) (W 6) (ty := .int) (by decide) rfl rfl rfl rfl (Q 70).2) ?_
    intro T212 h212 X212 e212 W212
    have F212 := f201.same W212
    have K212 := Keep.of_wr W212
    have N212 := Fr.snoc X212 N204 (by omega : n0 ≤ a1)
    have zK212 := K212.1
    refine yD (fun _ z_ => yC X212 (Q 71) rfl rfl (qN X212 (Q 72) rfl rfl z_)) ?_
    have zo : ∃ qs qa ql qb, qW cs (u + 1) lj = (qs, qa, ql, qb) := ⟨_, _, _, _, rfl⟩
    obtain ⟨qs, qa, ql, qb, hqe⟩ := zo
    have hqL := o_qeL cs _ (u + 1) lj (Nat.le_refl _) (by omega)
    have hqM := o_qeM cs _ (u + 1) lj (Nat.le_refl _)
    rw [hqe] at hqL hqM
    dsimp only at hqL hqM
    have hqlen : qs.length < 16 := o_qlen hP hat hqe (fun f hf => hfl f (by rw [hfs]; exact List.mem_append_right _ hf))
    have O213 : Old Z n0 h212 := O197.keep K212 (allS (by omega) all0)
    have f214 := (f203.keep K212 (yB (by omega) nin0) (yB (by omega) nin0))
    have f215 := (S196.keep K212 (yB (by omega) nin0) (yB (by omega) nin0))
    have f216 := (f199.keep K212)
    have f217 := (f200.other W212 (yS (Or.inr (W 44)) (Or.inl (W 74)) (by decide)))
    have KK218 := yF (yN (yI (Keep.refl hR116 [a1]) K193) K196) K212
    have f219 := (((Lf2.keep K193 nin0).keep K196 (yB (by omega) nin0)).other W212 (yS (Or.inl (W 42)) (Or.inl (W 74)) (by decide)))
    refine qI (o_callP X212 hx hZ (y := (⟨sN1, "quoted", "(Ljava/lang/StringBuilder;)Z"⟩ : MethodName)) hown (W 428) (W 429) (o_selP (o_NIi (W 6)) (W 429) (W 430) (by decide)) (W 430) (W 431) (by decide) (qY (W := 0) (qtW hw a1 t1 tb b193 t196 kb196 cs ([] : List Int32) (u + 1) lj O213 CS FM FI UT hk (by omega) (by omega) (by omega) (by omega) (by omega) (by omega) (by omega) (by omega) (by omega) (by omega) (by omega) (by omega) (by omega) f216 f217 F212 f219 f214 f215 (by rw [hqe]; exact Nat.le_of_lt hqlen)) hZ (W 431) (W 7) (by decide) (by decide)) e212 f216 (Nat.le_trans (by omega : (cl + 2) + 1 ≤ 32) (by decide)) (Nat.le_trans (by omega : (sl + 20) + 40 ≤ 1303) (by decide)) rfl (hM rfl) (argsL := [(.ref b193)]) (rest := []) (lenOf pd69 rfl) rfl rfl (qE rfl rfl) (Q 73).2) ?_
    rintro T220 _ _ h220 X220 e220 ⟨rfl, N220q, K220, Ea220, Fa220, Fb220, Fc220, t220, kb220, zt220, S220⟩
    have zK220 := K220.1
    have N220 := Fr.app N212 N220q
    have ls220 := S220.lt
    have E220 := S220.1
    simp only [hqe] at Fb220 Fc220 S220
    rw [hqe]
    by_cases c221 : (if qb then (1 : Int32) else 0) = (0 : Int32)
    · refine yD (fun _ z_ => qA X220 (Q 74) rfl ((if0 _ _).trans (teq c221).2) z_) ?_
      have hfdx := o_fdX hat hqe (o_ifF c221)
      have zo := o_rwX hP hfdx
      obtain ⟨hfr, hx2, hae, hle⟩ := zo
      have hffx : (([] : List Int32) ++ qs).length < 16 := hqlen
      refine yD (fun _ z_ => yC X220 (Q 75) rfl rfl (qN X220 (Q 76) rfl rfl z_)) ?_
      have O222 : Old Z n0 h220 := O213.keep K220 (allS (by omega) (allS (by omega) (allS (by omega) all0)))
      refine qI (o_callV X220 hx hZ (y := mN21) (z := mN21) hown (W 275) (W 276) (notFace_of_selects (args := #[]) (mvT hZ (W 278))) (W 278) (W 277) (by decide) (qY (W := 1) (tsW hw b193 t220 kb220 (([] : List Int32) ++ qs) O222 CS hffx S220) hZ (W 279) (W 205) (by decide) (by decide)) e220 E220 (Nat.le_trans (by omega : (cl + 3) + 2 ≤ 32) (by decide)) (Nat.le_trans (by omega : (sl + 60) + 44 ≤ 1303) (by decide)) rfl (hM rfl) (argsL := []) (rest := [(.ref b105)]) (lenOf pd67 rfl) rfl rfl (qE rfl rfl) (Q 77).2) ?_
      rintro T223 _ _ h223 X223 e223 ⟨N223q, b223, t223, rfl, K223, zb223, zt223, S223⟩
      have zK223 := K223.1
      have N223 := Fr.app N220 N223q
      have E223 := S223.1
      have ls223 := S223.lt
      have O224 : Old Z n0 h223 := O222.keep K223 all0
      have KK225 := yI ((yF (yN (yI (Keep.refl hR116 [a1]) K193) K196) K212).trans K220 (allS (Or.inl (by simp)) (allS (Or.inr (by omega)) (allS (Or.inr (by omega)) all0)))) K223
      have f226 := (Sal.keep KK225 (yB (by omega) nin0) (yB (by omega) nin0))
      have f228 := (EA.keep KK225)
      refine qI (o_callV X223 hx hZ (y := mN22) (z := mN22) hown (W 316) (W 317) (notFace_of_selects (args := #[]) (mvT hZ (W 319))) (W 319) (W 318) (by decide) (qY (W := 0) (adW0 hw b105 y b223 D rs O224 DE (by omega) (by omega) (by omega) E223 f226) hZ (W 320) (W 92) (by decide) (by decide)) e223 f228 (Nat.le_trans (by omega : (cl + 5) + 1 ≤ 32) (by decide)) (Nat.le_trans (by omega : (sl + 104) + 10 ≤ 1303) (by decide)) rfl (hM rfl) (argsL := [(.ref b223)]) (rest := []) (lenOf pd68 rfl) rfl rfl (qE rfl rfl) (Q 78).2) ?_
      rintro T227 _ _ h227 X227 e227 ⟨rfl, N227q, K227, y227, zy227, S227⟩
      have zK227 := K227.1
      have N227 := Fr.app N223 N227q
      have ls227 := S227.lt
      have E227 := S227.1
      refine yD (fun _ z_ => XS.pop X227.here hx rfl (Q 79).2 rfl rfl z_) ?_
      have zo := newO X227 hx hZ hown (W 126) (W 127) (W 128) e227 (g := (mkF m 96 #[rv a1, iv (ofNat ln), rv b105, .val fv, rv b193] [])) rfl (Q 80).2 (Nat.le_trans (by omega : (cl + 6) + 1 ≤ 32) (by decide)) (Nat.le_trans (by omega : (sl + 114) + 3 ≤ 1303) (by decide))
      obtain ⟨T229, h229, X229, e229, E229, A229, D229, -, st229⟩ := zo
      have zo : ∃ z, z = h227.size := ⟨_, rfl⟩
      obtain ⟨b229, g229⟩ := zo
      rw [← g229] at A229 D229 st229
      have K229 : Keep h227 h229 [] := (Keep.refl _ _).ext E229
      have l229 : b229 < h229.size := A229.lt
      refine yD st229 ?_
      have zK229 := K229.1
      refine yD (fun _ z_ => qJ X229 (Q 81) rfl rfl (yE X229 (Q 82) rfl (yC X229 (Q 83) rfl rfl z_))) ?_
      have sf230 : Safe Z uO vmR116 h229 b229 := (Safe.exa hZ.alike A229 (by decide) (by decide))
      have KK231 := yI (uP (yI ((yF (yN (yI (Keep.refl hR116 [a1, b105, y]) K193) K196) K212).trans K220 (allS (Or.inl (by simp)) (allS (Or.inr (by omega)) (allS (Or.inr (by omega)) all0)))) K223) K227) K229
      have CR232 := CR116.trans (CHr.keep KK231 (allS (Safe.exa hZ.alike Ec (by decide) (by decide)) (allS (Safe.exa hZ.alike EA (by decide) (by decide)) (allS sfy_ all0))) CR116.1)
      have zo := ldcCH X229 hx hZ hown (W 549) (o_wStr hw) e229 hS (by omega) hEL (by decide) CR232.1 (vs := [.int (117), .int (110), .int (99), .int (108), .int (111), .int (115), .int (101), .int (100), .int (32), .int (113), .int (117), .int (111), .int (116), .int (101)]) (z := 14) (by decide) (by decide) (by decide) (g := (mkF m 102 #[rv a1, iv (ofNat ln), rv b105, .val fv, rv b193] [(.ref b105), (.int (ofNat ln)), (.ref b229), (.ref b229)])) rfl (Q 84).2 (n := 56) (by decide) (by decide) (Nat.le_trans (by omega : (cl + 7) + 2 ≤ 32) (by decide)) (Nat.le_trans (by omega : (sl + 117) + 60 ≤ 1303) (by decide))
      obtain ⟨a233, T233, h233, kk233, bb233, kb233, X233, e233, E233, hS233, hk233, hZ233, hown233, A233, Fc233, Fv233, V233, la233, lb233, CH233, L233, sf233, st233⟩ := zo
      replace la233 : (a233 : Nat) < Array.size h233 := la233
      have K233 : Keep h229 h233 [] := (Keep.refl _ _).ext E233
      have hS := hS233
      have hZ := hZ233
      have hown := hown233
      refine yD st233 ?_
      have zK233 := K233.1
      have CR234 := CR232.trans CH233
      have S233 : qQ Z h233 a233 [(117 : Int32), (110 : Int32), (99 : Int32), (108 : Int32), (111 : Int32), (115 : Int32), (101 : Int32), (100 : Int32), (32 : Int32), (113 : Int32), (117 : Int32), (111 : Int32), (116 : Int32), (101 : Int32)] := o_litStr A233 Fc233 Fv233 V233 (by decide) (by decide) (by decide) (by decide)
      have sg233_b229 := CH233.safe (o_l (by omega)) sf230
      have ne233_b229 := sf233 _ sg233_b229
      have St233 : yU Z h233 a233 bb233 o_UNC := o_litStrT A233 Fc233 Fv233 V233 (by decide) (by decide) (by decide) (by decide)
      have lst233 := St233.lt
      have KK235 := yI (yI (uP (Keep.refl h223 [b105, y]) K227) K229) K233
      have O236 : Old Z n0 h233 := O224.keep KK235 (allS (by omega) (allS (by omega) all0))
      have f237 := (S223.keep KK235 (yB (by omega) (yB (by omega) nin0)) (yB (by omega) (yB (by omega) nin0)))
      have KK238 := yI (yI (uP (yI ((yF (yN (yI (Keep.refl hR116 [a1, b105, y]) K193) K196) K212).trans K220 (allS (Or.inl (by simp)) (allS (Or.inr (by omega)) (allS (Or.inr (by omega)) all0)))) K223) K227) K229) K233
      have f239 := (qT.keep KK238 Sfs (allS (fun r_ hr_ => by have q_ := hbr r_ hr_; omega) (allS (fun r_ hr_ => by have q_ := hbr r_ hr_; omega) (allS (fun r_ hr_ => by have q_ := hbr r_ hr_; omega) all0))))
      have F_line_b229 : Fld Z h229 b229 sN3 "line" "I" (.int (0 : Int32)) := D229 (Or.inr (W 168)) (ty := .int) (by decide)
      have F_fields_b229 : Fld Z h229 b229 sN3 "fields" sN22 .null := D229 (Or.inr (W 170)) (ty := (.object sN13)) (by decide)
      have F_fault_b229 : Fld Z h229 b229 sN3 "fault" sN9 .null := D229 (Or.inr (W 172)) (ty := (.object sN2)) (by decide)
      have KK240 := yI (yI (Keep.refl h227 []) K229) K233
      have f241 := (S227.keep KK240 nin0 nin0)
      have f242 := (A229.keep K233)
      have f243 := (F_line_b229.keep K233 nin0)
      have f244 := (F_fields_b229.keep K233 nin0)
      have f245 := (F_fault_b229.keep K233 nin0)
      refine qI (o_callI X233 hx hZ (y := mN24) rfl hown (W 129) (W 130) (W 131) (by decide) (qY (W := 1) (riA hw b229 b105 y227 mr em bE (rs ++ [b223]) (ofNat ln) (.ref a233) _ _ _ O236 MM EM E0 rfl (by omega) (by omega) (by omega) (by rw [List.length_append, List.length_singleton]; omega) (qT.exa (qT.snoc f237 f239)) (o_hb1 (fun r hr => by have q_ := hbr r (List.mem_append_left _ hr); omega) (by omega)) f241 f242 f243 f244 f245) hZ (W 131) (W 128) (by decide) (by decide)) e233 (Nat.le_trans (by omega : (cl + 9) + 3 ≤ 32) (by decide)) (Nat.le_trans (by omega : (sl + 177) + 15 ≤ 1303) (by decide)) rfl (hM rfl) (a := b229) (argsL := [(.int (ofNat ln)), (.ref b105), (.ref a233)]) (rest := [(.ref b229)]) (lenOf pd66 rfl) rfl rfl (qE rfl rfl) (Q 85).2) ?_
      rintro T246 _ _ h246 X246 e246 ⟨rfl, N246q, K246, S246⟩
      have zK246 := K246.1
      have N246 := Fr.app N227 N246q
      have E246 := S246.1
      refine qO m 107 #[rv a1, iv (ofNat ln), rv b105, .val fv, rv b193] [(.ref b229)] ?_
      have KK247 := yN (yI (yI (uP (yI (Keep.refl h220 [b105, y]) K223) K227) K229) K233) K246
      have f248 := (Fa220.keep KK247 (yB (by omega) (yB (by omega) nin0)))
      have f249 := (Fb220.keep KK247 (yB (by omega) (yB (by omega) nin0)))
      have f250 := (Fc220.keep KK247 (yB (by omega) (yB (by omega) nin0)))
      have f251 := (f237.keep K246 (yB (by omega) nin0) (yB (by omega) nin0))
      have f252 := (qT.keep K246 f239 (allS (fun r_ hr_ => by have q_ := hbr r_ hr_; omega) all0))
      have KK253 := yN (yI (yI ((yI ((yF (yN (yI ((yN (yI (Keep.refl h0 [a1]) K105) K107).trans KR116 (allS (Or.inl (by simp)) (allS (Or.inr (by omega)) all0))) K193) K196) K212).trans K220 (allS (Or.inl (by simp)) (allS (Or.inr (by omega)) (allS (Or.inr (by omega)) all0)))) K223).trans K227 (allS (Or.inr (by omega)) (allS (Or.inr (by omega)) all0))) K229) K233) K246
      have f254 := (Ea220.keep KK247)
      have f255 := (St233.keep K246 (yB (Ne.symm ne233_b229.1) nin0) (yB (Ne.symm ne233_b229.2) nin0))
      have CR256 := CR234.trans (CHr.keep K246 (allS sg233_b229 all0) CR234.1)
      exact o_retW X246 hx hlk e246 hZ hEL hS (by omega) CR256 hret rfl (uA rfl rfl) (Q 86).2 (Nat.le_trans (by omega : (cl + 12) ≤ 32) (by decide)) (Nat.le_trans (by omega : (sl + 192) ≤ 1303) (by decide)) ⟨N246, KK253, f254, f248, (by rw [hae]; exact f249), (by rw [hle]; exact f250), b229, a233, bb233, _, _, (.ref a233), rfl, S246, (Or.inr (Or.inr ⟨hx2, rfl, f255⟩)), (by rw [hfs, hfr]; exact (qT.snoc f251 f252))⟩
    · refine yD (fun _ z_ => qF X220 83 108 rfl (Q 74) rfl ((if0 _ _).trans (feq c221).2) (by decide) (yC X220 (Q 87) rfl rfl z_)) ?_
      refine o_o1W (yV X220 hZ hown (W 73) e220 Fb220 rfl rfl (Q 88)) ?_
      intro T257 X257 e257
      refine yD (fun _ z_ => yC X257 (Q 89) rfl rfl z_) ?_
      refine o_o1W (yV X257 hZ hown (W 43) e257 Fa220 rfl rfl (Q 90)) ?_
      intro T258 X258 e258
      have f259 := (f214.keep K220 (yB (by omega) (yB (by omega) (yB (by omega) nin0))) (yB (by omega) (yB (by omega) (yB (by omega) nin0))))
      have O260 : Old Z n0 h220 := O213.keep K220 (allS (by omega) (allS (by omega) (allS (by omega) all0)))
      have KK262 := (yF (yN (yI ((yN (yI (Keep.refl h0 [a1]) K105) K107).trans KR116 (allS (Or.inl (by simp)) (allS (Or.inr (by omega)) all0))) K193) K196) K212).trans K220 (allS (Or.inl (by simp)) (allS (Or.inr (by omega)) (allS (Or.inr (by omega)) all0)))
      have f263 := (S1.1.keep KK262)
      refine qI (o_callV X258 hx hZ (y := mN5) (z := mN5) hown (W 80) (W 81) (notFace_of_selects (args := #[]) (mvT hZ (W 83))) (W 83) (W 82) (by decide) (qY (W := 1) (sln hw t1 cs O260 CS hk (yU.str f259)) hZ (W 84) (W 10) (by decide) (by decide)) e258 f263 (Nat.le_trans (by omega : (cl + 3) + 0 ≤ 32) (by decide)) (Nat.le_trans (by omega : (sl + 60) + 0 ≤ 1303) (by decide)) rfl (hM rfl) (argsL := []) (rest := [(.int (ofNat qa))]) (lenOf pd19 rfl) rfl rfl (qE rfl rfl) (Q 91).2) ?_
      rintro T261 _ _ h261 X261 e261 ⟨rfl, N261q, hq261⟩
      replace e261 := e261.trans hq261
      have N261 := Fr.app N220 N261q
      by_cases c264 : (ofNat qa) < (ofNat cs.length)
      · refine yD (fun _ z_ => qH X261 (Q 92) rfl (tlt c264).2.1 z_) ?_
        have hqlt : qa < cs.length := (qP (by omega) (by omega)).mp c264
        refine yD (fun _ z_ => yC X261 (Q 93) rfl rfl (yY X261 (Q 94) z_)) ?_
        refine qI (o_callP X261 hx hZ (y := mN10) hown (W 122) (W 123) (o_selP (o_NIi (W 6)) (W 123) (W 124) (by decide)) (W 124) (W 125) (by decide) (qY (W := 0) (atW hw a1 t1 cs qa (44 : Int32) O260 CS FM UT hk (by omega) Ea220 Fa220 Fb220 (yU.str f259)) hZ (W 125) (W 7) (by decide) (by decide)) e261 Ea220 (Nat.le_trans (by omega : (cl + 3) + 0 ≤ 32) (by decide)) (Nat.le_trans (by omega : (sl + 60) + 0 ≤ 1303) (by decide)) rfl (hM rfl) (argsL := [(.int (44 : Int32))]) (rest := []) (lenOf pd22 rfl) rfl rfl (qE rfl rfl) (Q 95).2) ?_
        rintro T265 _ _ h265 X265 e265 ⟨rfl, N265q, hq265⟩
        replace e265 := e265.trans hq265
        have N265 := Fr.app N261 N265q
        by_cases c266 : (if qX cs qa (44 : Int32) then (1 : Int32) else 0) = (0 : Int32)
        · refine yD (fun _ z_ => qA X265 (Q 96) rfl ((if0 _ _).trans (teq c266).2) (yC X265 (Q 97) rfl rfl z_)) ?_
          refine qI (o_callP X265 hx hZ (y := mN20) hown (W 118) (W 119) (o_selP (o_NIi (W 6)) (W 119) (W 120) (by decide)) (W 120) (W 121) (by decide) (qY (W := 0) (aeW hw a1 t1 cs qa O260 CS FM UT hk (by omega) Ea220 Fa220 Fb220 (yU.str f259)) hZ (W 121) (W 7) (by decide) (by decide)) e265 Ea220 (Nat.le_trans (by omega : (cl + 3) + 0 ≤ 32) (by decide)) (Nat.le_trans (by omega : (sl + 60) + 0 ≤ 1303) (by decide)) rfl (hM rfl) (argsL := []) (rest := []) (lenOf pd16 rfl) rfl rfl (qE rfl rfl) (Q 98).2) ?_
          rintro T267 _ _ h267 X267 e267 ⟨rfl, N267q, hq267⟩
          replace e267 := e267.trans hq267
          have N267 := Fr.app N265 N267q
          by_cases c268 : (if qR cs qa then (1 : Int32) else 0) = (0 : Int32)
          · refine yD (fun _ z_ => qA X267 (Q 99) rfl ((if0 _ _).trans (teq c268).2) z_) ?_
            have sf269 : Safe Z uO vmR116 h220 a1 := (Safe.exa hZ.alike Ea220 (by decide) (by decide))
            have KK271 := (yF (yN (yI (Keep.refl hR116 [a1]) K193) K196) K212).trans K220 (allS (Or.inl (by simp)) (allS (Or.inr (by omega)) (allS (Or.inr (by omega)) all0)))
            have f272 := (EA.keep KK271)
            have sf270 : Safe Z uO vmR116 h220 b105 := (Safe.exa hZ.alike f272 (by decide) (by decide))
            have f274 := (Sal.keep KK271 (yB (by omega) nin0) (yB (by omega) nin0))
            have sf273 : Safe Z uO vmR116 h220 y := o_AL.safe hZ.alike f274
            have sf275 : Safe Z uO vmR116 h220 b193 := (Safe.exa hZ.alike E220 (by decide) (by decide))
            have sf276 : Safe Z uO vmR116 h220 t220 := (Safe.keep KK271 (allS (Safe.exa hZ.alike Ec (by decide) (by decide)) all0) CR116.1 (Safe.new (by omega)))
            have CR277 := CR116.trans (CHr.keep KK271 (allS (Safe.exa hZ.alike Ec (by decide) (by decide)) all0) CR116.1)
            have zo := ldcCH X267 hx hZ hown (W 444) (o_wStr hw) e267 hS (by omega) hEL (by decide) CR277.1 (vs := [.int (116), .int (101), .int (120), .int (116), .int (32), .int (97), .int (102), .int (116), .int (101), .int (114), .int (32), .int (99), .int (108), .int (111), .int (115), .int (105), .int (110), .int (103), .int (32), .int (113), .int (117), .int (111), .int (116), .int (101)]) (z := 24) (by decide) (by decide) (by decide) (g := (mkF m 138 #[rv a1, iv (ofNat ln), rv b105, .val fv, rv b193] [])) rfl (Q 100).2 (n := 96) (by decide) (by decide) (Nat.le_trans (by omega : (cl + 3) + 2 ≤ 32) (by decide)) (Nat.le_trans (by omega : (sl + 60) + 100 ≤ 1303) (by decide))
            obtain ⟨a278, T278, h278, kk278, bb278, kb278, X278, e278, E278, hS278, hk278, hZ278, hown278, A278, Fc278, Fv278, V278, la278, lb278, CH278, L278, sf278, st278⟩ := zo
            replace la278 : (a278 : Nat) < Array.size h278 := la278
            have K278 : Keep h220 h278 [] := (Keep.refl _ _).ext E278
            have hS := hS278
            have hZ := hZ278
            have hown := hown278
            refine yD st278 ?_
            have zK278 := K278.1
            have CR279 := CR277.trans CH278
            have S278 : qQ Z h278 a278 [(116 : Int32), (101 : Int32), (120 : Int32), (116 : Int32), (32 : Int32), (97 : Int32), (102 : Int32), (116 : Int32), (101 : Int32), (114 : Int32), (32 : Int32), (99 : Int32), (108 : Int32), (111 : Int32), (115 : Int32), (105 : Int32), (110 : Int32), (103 : Int32), (32 : Int32), (113 : Int32), (117 : Int32), (111 : Int32), (116 : Int32), (101 : Int32)] := o_litStr A278 Fc278 Fv278 V278 (by decide) (by decide) (by decide) (by decide)
            have sg278_a1 := CH278.safe (o_l (by omega)) sf269
            have ne278_a1 := sf278 _ sg278_a1
            have sg278_b105 := CH278.safe (o_l (by omega)) sf270
            have ne278_b105 := sf278 _ sg278_b105
            have sg278_y := CH278.safe (o_l (by omega)) sf273
            have ne278_y := sf278 _ sg278_y
            have sg278_b193 := CH278.safe (o_l (by omega)) sf275
            have ne278_b193 := sf278 _ sg278_b193
            have sg278_t220 := CH278.safe (o_l (by omega)) sf276
            have ne278_t220 := sf278 _ sg278_t220
            have St278 : yU Z h278 a278 bb278 o_TXT := o_litStrT A278 Fc278 Fv278 V278 (by decide) (by decide) (by decide) (by decide)
            have lst278 := St278.lt
            refine yD (fun _ z_ => XS.astoreN X278.here hx rfl (Q 101).2 rfl rfl (l' := #[rv a1, iv (ofNat ln), rv b105, rv a278, rv b193]) (by rcases ref_cases hfv with h_ | ⟨_, h_⟩ <;> simp only [h_] <;> rfl) (yC X278 (Q 102) rfl rfl (qN X278 (Q 103) rfl rfl z_))) ?_
            refine qO m 144 #[rv a1, iv (ofNat ln), rv b105, rv a278, rv b193] [(.ref b193), (.ref a1)] ?_
            have O280 : Old Z n0 h278 := O260.keep K278 all0
            have f281 := (f259.keep K278 nin0 nin0)
            have f282 := (S220.keep K278 nin0 nin0)
            have hfd0 := o_fdT hat hqe (o_ifT c221) ⟨hqlt, o_ifF c266, o_ifF c268⟩
            have hsl_ := o_ueL (Nat.le_of_lt hqlt)
            have hfl0 := hfl _ (by rw [hfs]; exact List.mem_append_right _ (o_tlf (o_rwN hP hfd0 (by decide))))
            rw [List.length_append, o_sll hsl_.1 hsl_.2] at hfl0
            have f283 := (Ea220.keep K278)
            have f284 := (Fa220.keep K278 nin0)
            have f285 := (Fb220.keep K278 nin0)
            have f286 := (Fc220.keep K278 nin0)
            refine qI (o_callP X278 hx hZ (y := mN54) hown (W 221) (W 222) (o_selP (o_NIi (W 6)) (W 222) (W 223) (by decide)) (W 223) (W 224) (by decide) (qY (W := 0) (uqW hw a1 t1 tb b193 t220 kb220 cs (([] : List Int32) ++ qs) qa ql O280 CS FM FI UT hk (by omega) (by omega) (by omega) (by omega) (by omega) (by omega) (by omega) (by omega) (by omega) (by omega) (by omega) (by omega) (by omega) f283 f284 f285 f286 f281 f282 (by show qs.length + _ ≤ 16; omega) (fun ⟨c, hc, q⟩ => ⟨c, hqM c hc, q⟩)) hZ (W 224) (W 7) (by decide) (by decide)) e278 f283 (Nat.le_trans (by omega : (cl + 5) + 1 ≤ 32) (by decide)) (Nat.le_trans (by omega : (sl + 160) + 40 ≤ 1303) (by decide)) rfl (hM rfl) (argsL := [(.ref b193)]) (rest := []) (lenOf pd39 rfl) rfl rfl (qE rfl rfl) (Q 104).2) ?_
            rintro T287 _ _ h287 X287 e287 ⟨rfl, N287q, K287, Ea287, Fa287, Fb287, Fc287, t287, kb287, zt287, S287⟩
            have zK287 := K287.1
            have N287 := Fr.app N267 N287q
            have ls287 := S287.lt
            have E287 := S287.1
            refine yD (fun _ z_ => yT X287 147 156 rfl (Q 105) (by decide) z_) ?_
            have hfd := o_fdT hat hqe (o_ifT c221) ⟨hqlt, o_ifF c266, o_ifF c268⟩
            have hT' := o_rwN hP hfd (by decide)
            have f288 := (St278.keep K287 (yB (Ne.symm ne278_a1.1) (yB (Ne.symm ne278_b193.1) (yB (Ne.symm ne278_t220.1) nin0))) (yB (Ne.symm ne278_a1.2) (yB (Ne.symm ne278_b193.2) (yB (Ne.symm ne278_t220.2) nin0))))
            have FVn : uX Z h287 (.ref a278) 1 a278 bb278 := Or.inr (Or.inl ⟨rfl, rfl, f288⟩)
            have KK289 := (yI ((yF (yN (yI (Keep.refl hR116 [a1]) K193) K196) K212).trans K220 (allS (Or.inl (by simp)) (allS (Or.inr (by omega)) (allS (Or.inr (by omega)) all0)))) K278).trans K287 (allS (Or.inl (by simp)) (allS (Or.inr (by omega)) (allS (Or.inr (by omega)) all0)))
            have CR290 := CR279.trans (CHr.keep K287 (allS sg278_a1 (allS sg278_b193 (allS sg278_t220 all0))) CR279.1)
            exact G117 _ _ _ _ _ (uT cs qa) ql a278 bb278 1 b193 t287 _ _ (.ref a278) KK289 Ea287 Fa287 Fb287 Fc287 S287 FVn rfl (o_ndn ne278_a1 ne278_b105 ne278_y (by omega) (by omega)) (by omega) hT' hS (by omega) hZ hown CR290 (X287.more (by omega : (cl + 6) ≤ (cl + 6)) (by omega : (sl + 200) ≤ (sl + 250))) e287 N287
          · refine yD (fun _ z_ => qF X267 135 156 rfl (Q 99) rfl ((if0 _ _).trans (feq c268).2) (by decide) z_) ?_
            have hfd := o_fdO hat hqe (o_ifT c221) (fun q => q.2.2 (o_ifT c268))
            have hT' := o_rwN hP hfd (by decide)
            have KK291 := (yF (yN (yI (Keep.refl hR116 [a1]) K193) K196) K212).trans K220 (allS (Or.inl (by simp)) (allS (Or.inr (by omega)) (allS (Or.inr (by omega)) all0)))
            have f292 := (Sfv.keep KK291 (yB hsd.1.1 nin0) (yB hsd.1.2 nin0))
            have CR293 := CR116.trans (CHr.keep KK291 (allS (Safe.exa hZ.alike Ec (by decide) (by decide)) all0) CR116.1)
            exact G117 _ _ _ _ _ qa ql s_ t_ fc b193 t220 _ _ fv KK291 Ea220 Fa220 Fb220 Fc220 S220 f292 hfv (hsd.mono (by omega)) (by omega) hT' hS (by omega) hZ hown CR293 (X267.more (by omega : (cl + 3) ≤ (cl + 6)) (by omega : (sl + 60) ≤ (sl + 250))) e267 N267
        · refine yD (fun _ z_ => qF X265 128 156 rfl (Q 96) rfl ((if0 _ _).trans (feq c266).2) (by decide) z_) ?_
          have hfd := o_fdO hat hqe (o_ifT c221) (fun q => q.2.1 (o_ifT c266))
          have hT' := o_rwN hP hfd (by decide)
          have KK294 := (yF (yN (yI (Keep.refl hR116 [a1]) K193) K196) K212).trans K220 (allS (Or.inl (by simp)) (allS (Or.inr (by omega)) (allS (Or.inr (by omega)) all0)))
          have f295 := (Sfv.keep KK294 (yB hsd.1.1 nin0) (yB hsd.1.2 nin0))
          have CR296 := CR116.trans (CHr.keep KK294 (allS (Safe.exa hZ.alike Ec (by decide) (by decide)) all0) CR116.1)
          exact G117 _ _ _ _ _ qa ql s_ t_ fc b193 t220 _ _ fv KK294 Ea220 Fa220 Fb220 Fc220 S220 f295 hfv (hsd.mono (by omega)) (by omega) hT' hS (by omega) hZ hown CR296 (X265.more (by omega : (cl + 3) ≤ (cl + 6)) (by omega : (sl + 60) ≤ (sl + 250))) e265 N265
      · refine yD (fun _ z_ => qG X261 119 156 rfl (Q 92) rfl (flt c264).2.1 (by decide) z_) ?_
        have hfd := o_fdO hat hqe (o_ifT c221) (fun q => c264 ((qP (by omega) (by omega)).mpr q.1))
        have hT' := o_rwN hP hfd (by decide)
        have KK297 := (yF (yN (yI (Keep.refl hR116 [a1]) K193) K196) K212).trans K220 (allS (Or.inl (by simp)) (allS (Or.inr (by omega)) (allS (Or.inr (by omega)) all0)))
        have f298 := (Sfv.keep KK297 (yB hsd.1.1 nin0) (yB hsd.1.2 nin0))
        have CR299 := CR116.trans (CHr.keep KK297 (allS (Safe.exa hZ.alike Ec (by decide) (by decide)) all0) CR116.1)
        exact G117 _ _ _ _ _ qa ql s_ t_ fc b193 t220 _ _ fv KK297 Ea220 Fa220 Fb220 Fc220 S220 f298 hfv (hsd.mono (by omega)) (by omega) hT' hS (by omega) hZ hown CR299 (X261.more (by omega : (cl + 3) ≤ (cl + 6)) (by omega : (sl + 60) ≤ (sl + 250))) e261 N261
def uL (x : Int32) : Int32 := if (x &&& 255) = 44 ∨ (x &&& 255) = 34 ∨ (x &&& 255) = 13 ∨ (x &&& 255) = 10 then (x &&& 255) ||| 256 else x &&& 255
def qS (c : Int32) : Prop := ¬ c < 0 ∧ ¬ (65535 : Int32) < c
def uS (c : Int32) : Prop := qS c ∧ ¬ c = 44 ∧ ¬ c = 34 ∧ ¬ c = 13 ∧ ¬ c = 10
theorem o_odT : ∀ k : Fin 256, uL (ofNat k.val) = uL (ofNat k.val) &&& 65535 ∧ ¬ uL (ofNat k.val) < 0 ∧ ¬ (65535 : Int32) < uL (ofNat k.val) ∧ ¬ uL (ofNat k.val) = 44 ∧ ¬ uL (ofNat k.val) = 34 ∧ ¬ uL (ofNat k.val) = 13 ∧ ¬ uL (ofNat k.val) = 10 := by decide +kernel
theorem uZ (x : Int32) : uS (uL x) := by
 have h : (x &&& 255).toBitVec.toNat < 256 := by
  simp only [Int32.toBitVec_and, BitVec.toNat_and]
  exact Nat.lt_succ_of_le Nat.and_le_right
 have e : (x &&& 255) = ofNat (x &&& 255).toBitVec.toNat := by
  apply Int32.toBitVec_inj.mp
  show _ = BitVec.ofNat 32 _
  rw [BitVec.ofNat_toNat]; simp
 have i : uL x = uL (x &&& 255) := by
  unfold uL
  rw [show (x &&& 255) &&& 255 = x &&& 255 from by rw [Int32.and_assoc]; rfl]
 rw [i, e]
 obtain ⟨-, a, b, r⟩ := o_odT ⟨_, h⟩
 exact ⟨⟨a, b⟩, r⟩
theorem d1 : yX method_3_code [(0, .iload_n 0, 1), (1, .sipush 255, 3), (4, .iand, 1), (5, .istore_n 1, 1), (6, .iload_n 1, 1), (7, .bipush 44, 2), (9, .if_icmp .eq 21, 3), (30, .iload_n 1, 1), (31, .sipush 256, 3), (34, .ior, 1), (35, .istore_n 1, 1), (36, .iload_n 1, 1), (37, .i2c, 1), (38, .ireturn, 1), (12, .iload_n 1, 1), (13, .bipush 34, 2), (15, .if_icmp .eq 15, 3), (18, .iload_n 1, 1), (19, .bipush 13, 2), (21, .if_icmp .eq 9, 3), (24, .iload_n 1, 1), (25, .bipush 10, 2), (27, .if_icmp .ne 9, 3)] := by decide +kernel
theorem pd70 : plainName sN10 = true := by first | (simp [plainName, overriddenIn]; done) | decide +kernel
abbrev orWR : Room := { frames := 0, cells := 0, slots := 0, locals := 0 }
theorem orW (hw : yQ a0 Z) (p1 : Int32) (O0 : Old Z n0 h0)  :
 yZ l Z mN7 method_3_code 2 (some .char) [] orWR #[(.int p1)] h0 (fun v h L => v = some (.int (uL p1)) ∧ Fr n0 L ∧ h = h0) := by
 refine yK (plainFor_of_name pd70) ?_
 intro p e s m below meth c T0 X0 hx hby hml hZ hown hnm hret hlk e0
 have W := qC hw
 have Q := @yR p c _ _ _ hx hby d1
 have N0 := Fr.nil n0
 have zO := yM O0
 refine yP 1 rfl rfl ?_
 refine yG m 0 #[iv p1, .unset] [] ?_
 refine yA (fun _ z_ => yE X0 (Q 0) rfl (XS.sipush X0.here hx rfl (Q 1).2 (XS.iand X0.here hx rfl (Q 2).2 rfl (XS.istoreN X0.here hx rfl (Q 3).2 rfl rfl (yE X0 (Q 4) rfl z_))))) ?_
 refine yA (fun _ z_ => yY X0 (Q 5) z_) ?_
 by_cases c101 : (p1 &&& (255 : Int32)) = (44 : Int32)
 · refine yA (fun _ z_ => qG X0 9 30 rfl (Q 6) rfl (teq c101).1 (by decide) (yE X0 (Q 7) rfl (XS.sipush X0.here hx rfl (Q 8).2 (XS.ior X0.here hx rfl (Q 9).2 rfl (XS.istoreN X0.here hx rfl (Q 10).2 rfl rfl (yE X0 (Q 11) rfl z_)))))) ?_
   refine yA (fun _ z_ => XS.i2c X0.here hx rfl (Q 12).2 rfl z_) ?_
   refine yG m 38 #[iv p1, iv ((p1 &&& (255 : Int32)) ||| (256 : Int32))] [(.int (((p1 &&& (255 : Int32)) ||| (256 : Int32)).toUInt32.toUInt16.toUInt32.toInt32))] ?_
   have hod : uL p1 = ((p1 &&& (255 : Int32)) ||| (256 : Int32)) := if_pos (Or.inl c101)
   rw [show (((p1 &&& (255 : Int32)) ||| (256 : Int32)).toUInt32.toUInt16.toUInt32.toInt32) = (uL p1) from (by rw [← hod]; exact uF (uZ p1).1)]
   exact yW X0 hlk e0 hret (o_rc16 (uZ p1).1) o_iC (Q 13) (by decide) ⟨rfl, N0, rfl⟩
 · refine yA (fun _ z_ => qH X0 (Q 6) rfl (feq c101).1 (yE X0 (Q 14) rfl (yY X0 (Q 15) z_))) ?_
   by_cases c102 : (p1 &&& (255 : Int32)) = (34 : Int32)
   · refine yA (fun _ z_ => qG X0 15 30 rfl (Q 16) rfl (teq c102).1 (by decide) (yE X0 (Q 7) rfl (XS.sipush X0.here hx rfl (Q 8).2 (XS.ior X0.here hx rfl (Q 9).2 rfl (XS.istoreN X0.here hx rfl (Q 10).2 rfl rfl (yE X0 (Q 11) rfl z_)))))) ?_
     refine yA (fun _ z_ => XS.i2c X0.here hx rfl (Q 12).2 rfl z_) ?_
     refine yG m 38 #[iv p1, iv ((p1 &&& (255 : Int32)) ||| (256 : Int32))] [(.int (((p1 &&& (255 : Int32)) ||| (256 : Int32)).toUInt32.toUInt16.toUInt32.toInt32))] ?_
     have hod : uL p1 = ((p1 &&& (255 : Int32)) ||| (256 : Int32)) := if_pos (Or.inr (Or.inl c102))
     rw [show (((p1 &&& (255 : Int32)) ||| (256 : Int32)).toUInt32.toUInt16.toUInt32.toInt32) = (uL p1) from (by rw [← hod]; exact uF (uZ p1).1)]
     exact yW X0 hlk e0 hret (o_rc16 (uZ p1).1) o_iC (Q 13) (by decide) ⟨rfl, N0, rfl⟩
   · refine yA (fun _ z_ => qH X0 (Q 16) rfl (feq c102).1 (yE X0 (Q 17) rfl (yY X0 (Q 18) z_))) ?_
     by_cases c103 : (p1 &&& (255 : Int32)) = (13 : Int32)
     · refine yA (fun _ z_ => qG X0 21 30 rfl (Q 19) rfl (teq c103).1 (by decide) (yE X0 (Q 7) rfl (XS.sipush X0.here hx rfl (Q 8).2 (XS.ior X0.here hx rfl (Q 9).2 rfl (XS.istoreN X0.here hx rfl (Q 10).2 rfl rfl (yE X0 (Q 11) rfl z_)))))) ?_
       refine yA (fun _ z_ => XS.i2c X0.here hx rfl (Q 12).2 rfl z_) ?_
       refine yG m 38 #[iv p1, iv ((p1 &&& (255 : Int32)) ||| (256 : Int32))] [(.int (((p1 &&& (255 : Int32)) ||| (256 : Int32)).toUInt32.toUInt16.toUInt32.toInt32))] ?_
       have hod : uL p1 = ((p1 &&& (255 : Int32)) ||| (256 : Int32)) := if_pos (Or.inr (Or.inr (Or.inl c103)))
       rw [show (((p1 &&& (255 : Int32)) ||| (256 : Int32)).toUInt32.toUInt16.toUInt32.toInt32) = (uL p1) from (by rw [← hod]; exact uF (uZ p1).1)]
       exact yW X0 hlk e0 hret (o_rc16 (uZ p1).1) o_iC (Q 13) (by decide) ⟨rfl, N0, rfl⟩
     · refine yA (fun _ z_ => qH X0 (Q 19) rfl (feq c103).1 (yE X0 (Q 20) rfl (yY X0 (Q 21) z_))) ?_
       by_cases c104 : (p1 &&& (255 : Int32)) = (10 : Int32)
       · refine yA (fun _ z_ => qH X0 (Q 22) rfl (teq c104).2 (yE X0 (Q 7) rfl (XS.sipush X0.here hx rfl (Q 8).2 (XS.ior X0.here hx rfl (Q 9).2 rfl (XS.istoreN X0.here hx rfl (Q 10).2 rfl rfl (yE X0 (Q 11) rfl z_)))))) ?_
         refine yA (fun _ z_ => XS.i2c X0.here hx rfl (Q 12).2 rfl z_) ?_
         refine yG m 38 #[iv p1, iv ((p1 &&& (255 : Int32)) ||| (256 : Int32))] [(.int (((p1 &&& (255 : Int32)) ||| (256 : Int32)).toUInt32.toUInt16.toUInt32.toInt32))] ?_
         have hod : uL p1 = ((p1 &&& (255 : Int32)) ||| (256 : Int32)) := if_pos (Or.inr (Or.inr (Or.inr (c104))))
         rw [show (((p1 &&& (255 : Int32)) ||| (256 : Int32)).toUInt32.toUInt16.toUInt32.toInt32) = (uL p1) from (by rw [← hod]; exact uF (uZ p1).1)]
         exact yW X0 hlk e0 hret (o_rc16 (uZ p1).1) o_iC (Q 13) (by decide) ⟨rfl, N0, rfl⟩
       · refine yA (fun _ z_ => qG X0 27 36 rfl (Q 22) rfl (feq c104).2 (by decide) (yE X0 (Q 11) rfl (XS.i2c X0.here hx rfl (Q 12).2 rfl z_))) ?_
         refine yG m 38 #[iv p1, iv (p1 &&& (255 : Int32))] [(.int ((p1 &&& (255 : Int32)).toUInt32.toUInt16.toUInt32.toInt32))] ?_
         have hod : uL p1 = (p1 &&& (255 : Int32)) := if_neg (fun q => q.elim c101 (fun q => q.elim c102 (fun q => q.elim c103 c104)))
         rw [show ((p1 &&& (255 : Int32)).toUInt32.toUInt16.toUInt32.toInt32) = (uL p1) from (by rw [← hod]; exact uF (uZ p1).1)]
         exact yW X0 hlk e0 hret (o_rc16 (uZ p1).1) o_iC (Q 13) (by decide) ⟨rfl, N0, rfl⟩
theorem d83 : yX jdk_42_method_151_code [(0, .aload_n 0, 1), (1, .invokespecial 1, 3), (4, .aload_n 0, 1), (5, .aload_n 1, 1), (6, .putfield 9, 3), (9, .aload_n 0, 1), (10, .iload_n 2, 1), (11, .putfield 15, 3), (14, .return_, 1)] := by decide +kernel
abbrev sb0R : Room := { frames := 1, cells := 0, slots := 0, locals := 12 }
theorem sb0 (hw : yQ a0 Z) (a1 a2 : Nat) (u1 u2 : Value) (O0 : Old Z n0 h0) (E1 : Exa Z h0 a1 sN2) (g1 : n0 ≤ a1) (F1 : Fld Z h0 a1 sN2 "value" "[B" u1) (F2 : Fld Z h0 a1 sN2 "coder" "B" u2) :
 yZ l Z mN35 jdk_42_method_151_code 3 none [] sb0R #[(.ref a1), (.ref a2), (.int (0 : Int32))] h0 (fun v h L => v = none ∧ Fr n0 L ∧ Keep h0 h [a1] ∧ Exa Z h a1 sN2 ∧ Fld Z h a1 sN2 "value" "[B" (.ref a2) ∧ Fld Z h a1 sN2 "coder" "B" (.int 0)) := by
 refine yK (plainFor_of_name pd8) ?_
 intro p e s m below meth c T0 X0 hx hby hml hZ hown hnm hret hlk e0
 have hM := @qK _ _ hml
 have W := qC hw
 have Q := @yR p c _ _ _ hx hby d83
 have N0 := Fr.nil n0
 have zO := yM O0
 refine yP 0 rfl rfl ?_
 refine yG m 0 #[rv a1, rv a2, iv (0 : Int32)] [] ?_
 refine yA (fun _ z_ => yC X0 (Q 0) rfl rfl z_) ?_
 refine yO (initO X0 hx hZ hown (W 18) (W 19) (W 20) e0 rfl (hM rfl) rfl (Q 1).2 (by decide) (W := 0) (qE rfl rfl) (by decide)) ?_
 intro T101 X101 e101
 refine yA (fun _ z_ => yC X101 (Q 2) rfl rfl (yC X101 (Q 3) rfl rfl z_)) ?_
 refine qL (putF X101 hx hZ hown (host := "") (Or.inl (W 35)) Via.refl e101 F1 E1 (Or.inr ⟨(W 36), rfl, hnm⟩) (W 9) (ty := (.array .byte)) (by decide) rfl rfl rfl rfl (Q 4).2) ?_
 intro T102 h102 X102 e102 W102
 have F102 := F1.same W102
 have K102 := Keep.of_wr W102
 have N102 := Fr.snoc X102 N0 (by omega : n0 ≤ a1)
 have zK102 := K102.1
 refine yA (fun _ z_ => yC X102 (Q 5) rfl rfl (yE X102 (Q 6) rfl z_)) ?_
 have f103 := (F2.other W102 (yS (Or.inr (W 34)) (Or.inr (W 36)) (by decide)))
 have f104 := (E1.keep K102)
 refine qL (putFN X102 hx hZ hown (W 33) Via.refl e102 f103 f104 (Or.inr ⟨(W 34), rfl, hnm⟩) (W 9) (ty := .byte) (v' := (.int (0 : Int32))) (by decide) (by decide) (by decide) rfl rfl (Q 7).2) ?_
 intro T105 h105 X105 e105 W105
 have F105 := f103.same W105
 have K105 := Keep.of_wr W105
 have N105 := Fr.snoc X105 N102 (by omega : n0 ≤ a1)
 have zK105 := K105.1
 have KK106 := yF (yF (Keep.refl h0 [a1]) K102) K105
 have f107 := (f104.keep K105)
 have f108 := (F102.other W105 (yS (Or.inr (W 36)) (Or.inr (W 34)) (by decide)))
 exact uG X105 hlk e105 hret (Q 8) (by decide) ⟨rfl, N105, KK106, f107, f108, F105⟩
abbrev sb1R : Room := { frames := 1, cells := 0, slots := 0, locals := 12 }
theorem sb1 (hw : yQ a0 Z) (a1 a2 : Nat) (u1 u2 : Value) (O0 : Old Z n0 h0) (E1 : Exa Z h0 a1 sN2) (g1 : n0 ≤ a1) (F1 : Fld Z h0 a1 sN2 "value" "[B" u1) (F2 : Fld Z h0 a1 sN2 "coder" "B" u2) :
 yZ l Z mN35 jdk_42_method_151_code 3 none [] sb1R #[(.ref a1), (.ref a2), (.int (1 : Int32))] h0 (fun v h L => v = none ∧ Fr n0 L ∧ Keep h0 h [a1] ∧ Exa Z h a1 sN2 ∧ Fld Z h a1 sN2 "value" "[B" (.ref a2) ∧ Fld Z h a1 sN2 "coder" "B" (.int 1)) := by
 refine yK (plainFor_of_name pd8) ?_
 intro p e s m below meth c T0 X0 hx hby hml hZ hown hnm hret hlk e0
 have hM := @qK _ _ hml
 have W := qC hw
 have Q := @yR p c _ _ _ hx hby d83
 have N0 := Fr.nil n0
 have zO := yM O0
 refine yP 0 rfl rfl ?_
 refine yG m 0 #[rv a1, rv a2, iv (1 : Int32)] [] ?_
 refine yA (fun _ z_ => yC X0 (Q 0) rfl rfl z_) ?_
 refine yO (initO X0 hx hZ hown (W 18) (W 19) (W 20) e0 rfl (hM rfl) rfl (Q 1).2 (by decide) (W := 0) (qE rfl rfl) (by decide)) ?_
 intro T101 X101 e101
 refine yA (fun _ z_ => yC X101 (Q 2) rfl rfl (yC X101 (Q 3) rfl rfl z_)) ?_
 refine qL (putF X101 hx hZ hown (host := "") (Or.inl (W 35)) Via.refl e101 F1 E1 (Or.inr ⟨(W 36), rfl, hnm⟩) (W 9) (ty := (.array .byte)) (by decide) rfl rfl rfl rfl (Q 4).2) ?_
 intro T102 h102 X102 e102 W102
 have F102 := F1.same W102
 have K102 := Keep.of_wr W102
 have N102 := Fr.snoc X102 N0 (by omega : n0 ≤ a1)
 have zK102 := K102.1
 refine yA (fun _ z_ => yC X102 (Q 5) rfl rfl (yE X102 (Q 6) rfl z_)) ?_
 have f103 := (F2.other W102 (yS (Or.inr (W 34)) (Or.inr (W 36)) (by decide)))
 have f104 := (E1.keep K102)
 refine qL (putFN X102 hx hZ hown (W 33) Via.refl e102 f103 f104 (Or.inr ⟨(W 34), rfl, hnm⟩) (W 9) (ty := .byte) (v' := (.int (1 : Int32))) (by decide) (by decide) (by decide) rfl rfl (Q 7).2) ?_
 intro T105 h105 X105 e105 W105
 have F105 := f103.same W105
 have K105 := Keep.of_wr W105
 have N105 := Fr.snoc X105 N102 (by omega : n0 ≤ a1)
 have zK105 := K105.1
 refine yG m 14 #[rv a1, rv a2, iv (1 : Int32)] [] ?_
 have KK106 := yF (yF (Keep.refl h0 [a1]) K102) K105
 have f107 := (f104.keep K105)
 have f108 := (F102.other W105 (yS (Or.inr (W 36)) (Or.inr (W 34)) (by decide)))
 exact uG X105 hlk e105 hret (Q 8) (by decide) ⟨rfl, N105, KK106, f107, f108, F105⟩
theorem d82 : yX jdk_43_method_46_code [(0, .iconst 1, 1), (1, .newarray .byte, 2), (3, .dup, 1), (4, .iconst 0, 1), (5, .iload_n 0, 1), (6, .i2b, 1), (7, .bastore, 1), (8, .areturn, 1)] := by decide +kernel
abbrev t1LR : Room := { frames := 0, cells := 1, slots := 1, locals := 0 }
theorem t1L (hw : yQ a0 Z) (cq : Int32) (O0 : Old Z n0 h0)  :
 yZ l Z (⟨sN18, "toBytes", "(C)[B"⟩ : MethodName) jdk_43_method_46_code 1 (some (.array .byte)) [] t1LR #[(.int cq)] h0 (fun v h L => Fr n0 L ∧ ∃ (b : Nat) (kb : ClassId), v = some (.ref b) ∧ Keep h0 h [] ∧ h0.size ≤ b ∧ b < h.size ∧ Arv Z h b kb .byte (ofNat [cq].length) ([cq].map fun c => Value.int (StrChars.lo8 c)) (.int 0)) := by
 refine yK (plainFor_of_name pd13) ?_
 intro p e s m below meth c T0 X0 hx hby hml hZ hown hnm hret hlk e0
 have W := qC hw
 have Q := @yR p c _ _ _ hx hby d82
 have N0 := Fr.nil n0
 have zO := yM O0
 refine yP 0 rfl rfl ?_
 refine yG m 0 #[iv cq] [] ?_
 refine yA (fun _ z_ => yH X0 (Q 0) z_) ?_
 have zo := newP X0 hx hZ (aty := .byte) (W 26) e0 (g := (mkF m 1 #[iv cq] [(.int (1 : Int32))])) rfl (Q 1).2 rfl (by decide) (cap := 1) (by decide) (by decide) (by decide) (by decide)
 obtain ⟨T101, h101, k101, X101, e101, E101, A101, st101⟩ := zo
 have zo : ∃ z, z = h0.size := ⟨_, rfl⟩
 obtain ⟨b101, g101⟩ := zo
 rw [← g101] at A101 st101
 have K101 : Keep h0 h101 [] := (Keep.refl _ _).ext E101
 have l101 : b101 < h101.size := A101.lt
 refine yA st101 ?_
 have zK101 := K101.1
 have V101 : Arv Z h101 b101 k101 .byte (1 : Int32) [(.int (0 : Int32))] (.int (0 : Int32)) := (Arv.new A101 (by decide)).pad (pad_rep [] (.int (0 : Int32)) 1)
 refine yA (fun _ z_ => qJ X101 (Q 2) rfl rfl (yH X101 (Q 3) (yE X101 (Q 4) rfl (XS.i2b X101.here hx rfl (Q 5).2 rfl z_)))) ?_
 refine yG m 7 #[iv cq] [(.int (cq.toInt8.toInt32)), (.int (0 : Int32)), (.ref b101), (.ref b101)] ?_
 show  uR p e below s _ _ _ (T101.setTop (mkF m 7 #[iv cq] [(.int (StrChars.lo8 cq)), (.int (0 : Int32)), (.ref b101), (.ref b101)]))
 obtain ⟨c102, Ar102, q102, S102, M102, H102, U102⟩ := V101
 refine qL (stB X101 hx hZ e101 Ar102 (j := (0 : Int32)) (inb_of S102 ⟨by decide, by decide⟩) rfl rfl (Q 6).2) ?_
 intro T102 h102 X102 e102 W102
 have V102 : Arv Z h102 b101 k101 .byte (1 : Int32) [(.int (StrChars.lo8 cq))] (.int (0 : Int32)) := by
  have q := Arv.set Ar102 q102 S102 M102 H102 U102 (fits_nar_byte _) W102 0 rfl (Nat.le_of_ble_eq_true rfl)
  rw [o_narB] at q
  exact q
 have K102 := Keep.of_wr W102
 have N102 := Fr.snoc X102 N0 (by omega : n0 ≤ b101)
 have zK102 := K102.1
 have KK103 := yN (yI (Keep.refl h0 []) K101) K102
 exact yW X102 hlk e102 hret rfl (uA rfl rfl) (Q 7) (by decide) ⟨N102, b101, _, rfl, KK103, by omega, V102.lt, V102⟩
theorem d99 : yX jdk_52_method_24_code [(0, .iconst 2, 1), (1, .newarray .byte, 2), (3, .astore_n 1, 1), (4, .aload_n 1, 1), (5, .iconst 0, 1), (6, .iload_n 0, 1), (7, .invokestatic 111, 3), (10, .aload_n 1, 1), (11, .areturn, 1)] := by decide +kernel
abbrev t1UR : Room := { frames := 1, cells := 1, slots := 2, locals := 14 }
theorem t1U (hw : yQ a0 Z) (cq : Int32) (O0 : Old Z n0 h0) (UT : uB Z) :
 yZ l Z (⟨sN11, "toBytes", "(C)[B"⟩ : MethodName) jdk_52_method_24_code 2 (some (.array .byte)) [] t1UR #[(.int cq)] h0 (fun v h L => Fr n0 L ∧ ∃ (b : Nat) (kb : ClassId), v = some (.ref b) ∧ Keep h0 h [] ∧ h0.size ≤ b ∧ b < h.size ∧ Arv Z h b kb .byte (ofNat (2 * [cq].length)) (StrChars.Road.wideBytes [cq]) (.int 0)) := by
 refine yK (plainFor_of_name pd0) ?_
 intro p e s m below meth c T0 X0 hx hby hml hZ hown hnm hret hlk e0
 have hM := @qK _ _ hml
 have W := qC hw
 have Q := @yR p c _ _ _ hx hby d99
 have N0 := Fr.nil n0
 have zO := yM O0
 refine yP 1 rfl rfl ?_
 refine yG m 0 #[iv cq, .unset] [] ?_
 refine yA (fun _ z_ => yH X0 (Q 0) z_) ?_
 have zo := newP X0 hx hZ (aty := .byte) (W 26) e0 (g := (mkF m 1 #[iv cq, .unset] [(.int (2 : Int32))])) rfl (Q 1).2 rfl (by decide) (cap := 2) (by decide) (by decide) (by decide) (by decide)
 obtain ⟨T101, h101, k101, X101, e101, E101, A101, st101⟩ := zo
 have zo : ∃ z, z = h0.size := ⟨_, rfl⟩
 obtain ⟨b101, g101⟩ := zo
 rw [← g101] at A101 st101
 have K101 : Keep h0 h101 [] := (Keep.refl _ _).ext E101
 have l101 : b101 < h101.size := A101.lt
 refine yA st101 ?_
 have zK101 := K101.1
 have V101 : Arv Z h101 b101 k101 .byte (2 : Int32) [(.int (0 : Int32)), (.int (0 : Int32))] (.int (0 : Int32)) := (Arv.new A101 (by decide)).pad (pad_rep [] (.int (0 : Int32)) 2)
 refine yA (fun _ z_ => XS.astoreN X101.here hx rfl (Q 2).2 rfl rfl rfl (yC X101 (Q 3) rfl rfl (yH X101 (Q 4) (yE X101 (Q 5) rfl z_)))) ?_
 refine yG m 7 #[iv cq, rv b101] [(.int cq), (.int (0 : Int32)), (.ref b101)] ?_
 show  uR p e below s _ _ _ (T101.setTop (mkF m 7 #[iv cq, rv b101] [(.int cq), (.int (ofNat 0)), (.ref b101)]))
 have V102 : Arv Z h101 b101 k101 .byte (ofNat 2) [.int 0, .int 0] (.int 0) := V101
 have V102l : [Value.int 0, Value.int 0].length = 2 := rfl
 have O103 : Old Z n0 h101 := O0.keep K101 all0
 refine yL (qD X101 hZ (y := mN18) hown (W 477) (W 478) (W 24) (W 479) 0 (pcN hw b101 _ cq 0 2 [Value.int 0, Value.int 0] O103 UT (by omega) (by omega) (by omega) V102l V102) e101 (by decide) rfl (hM rfl) [(.ref b101), (.int (ofNat 0)), (.int cq)] (rest := []) pd3 rfl rfl rfl rfl rfl (Q 6)) ?_
 rintro T104 _ _ h104 X104 e104 ⟨rfl, N104q, K104, V104⟩
 have zK104 := K104.1
 have N104 := Fr.app N0 N104q
 have lp104 : (([Value.int 0, Value.int 0].set (2 * 0) (.int (StrChars.lo8 cq))).set (2 * 0 + 1) (.int (StrChars.hi8 cq))).length = 2 := by rw [List.length_set, List.length_set]; exact V102l
 refine yA (fun _ z_ => yC X104 (Q 7) rfl rfl z_) ?_
 have KK105 := yN (yI (Keep.refl h0 []) K101) K104
 exact yW X104 hlk e104 hret rfl (uA rfl rfl) (Q 8) (by decide) ⟨N104, b101, _, rfl, KK105, by omega, V104.lt, V104⟩
theorem d81 : yX jdk_42_method_139_code [(0, .getstatic 38, 3), (3, .ifCond .eq 23, 3), (6, .iload_n 0, 1), (7, .invokestatic 1015, 3), (10, .ifCond .eq 16, 3), (26, .new 10, 3), (29, .dup, 1), (30, .iload_n 0, 1), (31, .invokestatic 1021, 3), (34, .iconst 1, 1), (35, .invokespecial 209, 3), (38, .areturn, 1), (13, .new 10, 3), (16, .dup, 1), (17, .iload_n 0, 1), (18, .invokestatic 1018, 3), (21, .iconst 0, 1), (22, .invokespecial 209, 3), (25, .areturn, 1)] := by decide +kernel
theorem pd71 : parseMethodDescriptor "(C)[B" = some ⟨[.char], some (.array .byte)⟩ := by decide +kernel
theorem pd72 : parseMethodDescriptor "([BB)V" = some ⟨[(.array .byte), .byte], none⟩ := by decide +kernel
abbrev voWR : Room := { frames := 2, cells := 2, slots := 6, locals := 29 }
theorem voW (hw : yQ a0 Z) (cq : Int32) (O0 : Old Z n0 h0) (CS : uE Z) (UT : uB Z) (hq : qS cq) :
 yZ l Z (⟨sN2, "valueOf", "(C)Ljava/lang/String;"⟩ : MethodName) jdk_42_method_139_code 1 (some (.object sN2)) [] voWR #[(.int cq)] h0 (fun v h L => Fr n0 L ∧ ∃ (b t : Nat), v = some (.ref b) ∧ Keep h0 h [] ∧ h0.size ≤ b ∧ h0.size ≤ t ∧ yU Z h b t [cq]) := by
 refine yK (plainFor_of_name pd8) ?_
 intro p e s m below meth c T0 X0 hx hby hml hZ hown hnm hret hlk e0
 have hM := @qK _ _ hml
 have W := qC hw
 have Q := @yR p c _ _ _ hx hby d81
 have N0 := Fr.nil n0
 have zO := yM O0
 have zo := CS
 obtain ⟨zc, Sc, hzc⟩ := zo
 refine yP 0 rfl rfl ?_
 refine yG m 0 #[iv cq] [] ?_
 refine yO (getS2 X0 hx hZ hown (host := "") (Or.inl (W 21)) Via.refl e0 (Sc.ext O0.2) rfl (Q 0).2) ?_
 intro T101 X101 e101
 refine yA (fun _ z_ => qA X101 (Q 1) rfl ((if0 _ _).trans (feq hzc).1) (yE X101 (Q 2) rfl z_)) ?_
 have zo := Classical.em ((255 : Int32) < cq)
 rcases zo with hwc | hnc
 · refine yG m 7 #[iv cq] [(.int cq)] ?_
   refine yL (qD X101 hZ (y := mN12) hown (W 460) (W 442) (W 63) (W 443) 0 (ca0 hw cq O0 hwc) e101 (by decide) rfl (hM rfl) [(.int cq)] (rest := []) pd22 rfl rfl rfl rfl rfl (Q 3)) ?_
   rintro T102 _ _ h102 X102 e102 ⟨rfl, N102q, hq102⟩
   replace e102 := e102.trans hq102
   have N102 := Fr.app N0 N102q
   refine yA (fun _ z_ => qF X102 10 26 rfl (Q 4) rfl ((if0 _ _).trans (teq (by decide)).1) (by decide) z_) ?_
   have zo := newO X102 hx hZ hown (W 421) (W 9) (W 10) e102 (g := (mkF m 26 #[iv cq] [])) rfl (Q 5).2 (by decide) (by decide)
   obtain ⟨T103, h103, X103, e103, E103, A103, D103, -, st103⟩ := zo
   have zo : ∃ z, z = h0.size := ⟨_, rfl⟩
   obtain ⟨b103, g103⟩ := zo
   rw [← g103] at A103 D103 st103
   have K103 : Keep h0 h103 [] := (Keep.refl _ _).ext E103
   have l103 : b103 < h103.size := A103.lt
   refine yA st103 ?_
   have zK103 := K103.1
   refine yA (fun _ z_ => qJ X103 (Q 6) rfl rfl (yE X103 (Q 7) rfl z_)) ?_
   have O104 : Old Z n0 h103 := O0.keep K103 all0
   refine yL (qD X103 hZ (y := (⟨sN11, "toBytes", "(C)[B"⟩ : MethodName)) hown (W 525) (W 526) (W 24) (W 527) 2 (t1U hw cq O104 UT) e103 (by decide) rfl (hM rfl) [(.int cq)] (rest := [(.ref b103), (.ref b103)]) pd71 rfl rfl rfl rfl rfl (Q 8)) ?_
   rintro T105 _ _ h105 X105 e105 ⟨N105q, b105, k105, rfl, K105, zb105, zc105, V105⟩
   have zK105 := K105.1
   have N105 := Fr.app N102 N105q
   refine yA (fun _ z_ => yH X105 (Q 9) z_) ?_
   have O106 : Old Z n0 h105 := O104.keep K105 all0
   have F_value_b103 : Fld Z h103 b103 sN2 "value" "[B" .null := D103 (Or.inr (W 36)) (ty := (.array .byte)) (by decide)
   have F_coder_b103 : Fld Z h103 b103 sN2 "coder" "B" (.int (0 : Int32)) := D103 (Or.inr (W 34)) (ty := .byte) (by decide)
   have f107 := (A103.keep K105)
   have f108 := (F_value_b103.keep K105 nin0)
   have f109 := (F_coder_b103.keep K105 nin0)
   refine yL (o_cI X105 hZ (y := mN35) rfl hown (W 464) (W 465) (W 466) (W 10) 1 (sb1 hw b103 b105 _ _ O106 f107 (by omega) f108 f109) e105 (by decide) rfl (hM rfl) (a := b103) [(.ref b105), (.int (1 : Int32))] (rest := [(.ref b103)]) pd72 rfl rfl rfl rfl rfl (Q 10)) ?_
   rintro T110 _ _ h110 X110 e110 ⟨rfl, N110q, K110, A110, Fa110, Fb110⟩
   have zK110 := K110.1
   have N110 := Fr.app N105 N110q
   have KK111 := yN (yI (yI (Keep.refl h0 []) K103) K105) K110
   have f112 := (V105.keep K110 (yB (by omega) nin0))
   exact yW X110 hlk e110 hret rfl (uA rfl rfl) (Q 11) (by decide) ⟨N110, b103, b105, rfl, KK111, by omega, by omega, A110, _, _, _, _, Fa110, Fb110, f112, Or.inr ⟨rfl, rfl, rfl, cq, List.mem_cons_self, hwc⟩, o_all1 hq, (by show 1 ≤ 4000; decide)⟩
 · refine yG m 7 #[iv cq] [(.int cq)] ?_
   refine yL (qD X101 hZ (y := mN12) hown (W 460) (W 442) (W 63) (W 443) 0 (ca1 hw cq O0 hnc) e101 (by decide) rfl (hM rfl) [(.int cq)] (rest := []) pd22 rfl rfl rfl rfl rfl (Q 3)) ?_
   rintro T113 _ _ h113 X113 e113 ⟨rfl, N113q, hq113⟩
   replace e113 := e113.trans hq113
   have N113 := Fr.app N0 N113q
   refine yA (fun _ z_ => qA X113 (Q 4) rfl ((if0 _ _).trans (feq (by decide)).1) z_) ?_
   have zo := newO X113 hx hZ hown (W 421) (W 9) (W 10) e113 (g := (mkF m 13 #[iv cq] [])) rfl (Q 12).2 (by decide) (by decide)
   obtain ⟨T114, h114, X114, e114, E114, A114, D114, -, st114⟩ := zo
   have zo : ∃ z, z = h0.size := ⟨_, rfl⟩
   obtain ⟨b114, g114⟩ := zo
   rw [← g114] at A114 D114 st114
   have K114 : Keep h0 h114 [] := (Keep.refl _ _).ext E114
   have l114 : b114 < h114.size := A114.lt
   refine yA st114 ?_
   have zK114 := K114.1
   refine yA (fun _ z_ => qJ X114 (Q 13) rfl rfl (yE X114 (Q 14) rfl z_)) ?_
   have O115 : Old Z n0 h114 := O0.keep K114 all0
   refine yL (qD X114 hZ (y := (⟨sN18, "toBytes", "(C)[B"⟩ : MethodName)) hown (W 461) (W 462) (W 63) (W 463) 2 (t1L hw cq O115) e114 (by decide) rfl (hM rfl) [(.int cq)] (rest := [(.ref b114), (.ref b114)]) pd71 rfl rfl rfl rfl rfl (Q 15)) ?_
   rintro T116 _ _ h116 X116 e116 ⟨N116q, b116, k116, rfl, K116, zb116, zc116, V116⟩
   have zK116 := K116.1
   have N116 := Fr.app N113 N116q
   refine yA (fun _ z_ => yH X116 (Q 16) z_) ?_
   have O117 : Old Z n0 h116 := O115.keep K116 all0
   have F_value_b114 : Fld Z h114 b114 sN2 "value" "[B" .null := D114 (Or.inr (W 36)) (ty := (.array .byte)) (by decide)
   have F_coder_b114 : Fld Z h114 b114 sN2 "coder" "B" (.int (0 : Int32)) := D114 (Or.inr (W 34)) (ty := .byte) (by decide)
   have f118 := (A114.keep K116)
   have f119 := (F_value_b114.keep K116 nin0)
   have f120 := (F_coder_b114.keep K116 nin0)
   refine yL (o_cI X116 hZ (y := mN35) rfl hown (W 464) (W 465) (W 466) (W 10) 1 (sb0 hw b114 b116 _ _ O117 f118 (by omega) f119 f120) e116 (by decide) rfl (hM rfl) (a := b114) [(.ref b116), (.int (0 : Int32))] (rest := [(.ref b114)]) pd72 rfl rfl rfl rfl rfl (Q 17)) ?_
   rintro T121 _ _ h121 X121 e121 ⟨rfl, N121q, K121, A121, Fa121, Fb121⟩
   have zK121 := K121.1
   have N121 := Fr.app N116 N121q
   have KK122 := yN (yI (yI (Keep.refl h0 []) K114) K116) K121
   have f123 := (V116.keep K121 (yB (by omega) nin0))
   exact yW X121 hlk e121 hret rfl (uA rfl rfl) (Q 18) (by decide) ⟨N121, b114, b116, rfl, KK122, by omega, by omega, A121, _, _, _, _, Fa121, Fb121, f123, Or.inl ⟨rfl, rfl, rfl, o_all1 hnc⟩, o_all1 hq, (by show 1 ≤ 4000; decide)⟩
theorem d80 : yX method_4_code [(0, .iload_n 0, 1), (1, .invokestatic 50, 3), (4, .areturn, 1)] := by decide +kernel
theorem pd73 : parseMethodDescriptor "(C)Ljava/lang/String;" = some ⟨[.char], some (.object sN2)⟩ := by decide +kernel
abbrev s1WR : Room := { frames := 3, cells := 2, slots := 6, locals := 41 }
theorem s1W (hw : yQ a0 Z) (p1 : Int32) (O0 : Old Z n0 h0) (CS : uE Z) (UT : uB Z) (q1 : qS p1) :
 yZ l Z mN11 method_4_code 1 (some (.object sN2)) [] s1WR #[(.int p1)] h0 (fun v h L => Fr n0 L ∧ ∃ (b t : Nat), v = some (.ref b) ∧ Keep h0 h [] ∧ h0.size ≤ b ∧ h0.size ≤ t ∧ yU Z h b t [p1]) := by
 refine yK (plainFor_of_name pd70) ?_
 intro p e s m below meth c T0 X0 hx hby hml hZ hown hnm hret hlk e0
 have hM := @qK _ _ hml
 have W := qC hw
 have Q := @yR p c _ _ _ hx hby d80
 have N0 := Fr.nil n0
 have zO := yM O0
 refine yP 0 rfl rfl ?_
 refine yG m 0 #[iv p1] [] ?_
 refine yA (fun _ z_ => yE X0 (Q 0) rfl z_) ?_
 refine yL (qD X0 hZ (y := (⟨sN2, "valueOf", "(C)Ljava/lang/String;"⟩ : MethodName)) hown (W 457) (W 458) (W 10) (W 459) 0 (voW hw p1 O0 CS UT q1) e0 (by decide) rfl (hM rfl) [(.int p1)] (rest := []) pd73 rfl rfl rfl rfl rfl (Q 1)) ?_
 rintro T101 _ _ h101 X101 e101 ⟨N101q, b101, t101, rfl, K101, zb101, zt101, S101⟩
 have zK101 := K101.1
 have N101 := Fr.app N0 N101q
 have E101 := S101.1
 have ls101 := S101.lt
 exact yW X101 hlk e101 hret rfl (uA rfl rfl) (Q 2) (by decide) ⟨N101, b101, t101, rfl, K101, by omega, by omega, S101⟩
theorem d78 : yX method_5_code [(0, .new 16, 3), (3, .dup, 1), (4, .iconst 2, 1), (5, .newarray .char, 2), (7, .dup, 1), (8, .iconst 0, 1), (9, .iload_n 0, 1), (10, .castore, 1), (11, .dup, 1), (12, .iconst 1, 1), (13, .iload_n 1, 1), (14, .castore, 1), (15, .invokespecial 18, 3), (18, .areturn, 1)] := by decide +kernel
theorem pd74 : parseMethodDescriptor "([C)V" = some ⟨[(.array .char)], none⟩ := by decide +kernel
abbrev s2WR : Room := { frames := 6, cells := 4, slots := 66, locals := 88 }
theorem s2W (hw : yQ a0 Z) (p1 p2 : Int32) (O0 : Old Z n0 h0) (CS : uE Z) (UT : uB Z) (q1 : qS p1) (q2 : qS p2) :
 yZ l Z mN15 method_5_code 2 (some (.object sN2)) [] s2WR #[(.int p1), (.int p2)] h0 (fun v h L => Fr n0 L ∧ ∃ (b t : Nat), v = some (.ref b) ∧ Keep h0 h [] ∧ h0.size ≤ b ∧ h0.size ≤ t ∧ yU Z h b t [p1, p2]) := by
 refine yK (plainFor_of_name pd70) ?_
 intro p e s m below meth c T0 X0 hx hby hml hZ hown hnm hret hlk e0
 have hM := @qK _ _ hml
 have W := qC hw
 have Q := @yR p c _ _ _ hx hby d78
 have N0 := Fr.nil n0
 have zO := yM O0
 refine yP 0 rfl rfl ?_
 refine yG m 0 #[iv p1, iv p2] [] ?_
 have zo := newO X0 hx hZ hown (W 8) (W 9) (W 10) e0 (g := (mkF m 0 #[iv p1, iv p2] [])) rfl (Q 0).2 (by decide) (by decide)
 obtain ⟨T101, h101, X101, e101, E101, A101, D101, -, st101⟩ := zo
 have zo : ∃ z, z = h0.size := ⟨_, rfl⟩
 obtain ⟨b101, g101⟩ := zo
 rw [← g101] at A101 D101 st101
 have K101 : Keep h0 h101 [] := (Keep.refl _ _).ext E101
 have l101 : b101 < h101.size := A101.lt
 refine yA st101 ?_
 have zK101 := K101.1
 refine yA (fun _ z_ => qJ X101 (Q 1) rfl rfl (yH X101 (Q 2) z_)) ?_
 have zo := newP X101 hx hZ (aty := .char) (W 4) e101 (g := (mkF m 5 #[iv p1, iv p2] [(.int (2 : Int32)), (.ref b101), (.ref b101)])) rfl (Q 3).2 rfl (by decide) (cap := 2) (by decide) (by decide) (by decide) (by decide)
 obtain ⟨T102, h102, k102, X102, e102, E102, A102, st102⟩ := zo
 have zo : ∃ z, z = h101.size := ⟨_, rfl⟩
 obtain ⟨b102, g102⟩ := zo
 rw [← g102] at A102 st102
 have K102 : Keep h101 h102 [] := (Keep.refl _ _).ext E102
 have l102 : b102 < h102.size := A102.lt
 refine yA st102 ?_
 have zK102 := K102.1
 have V102 : Arv Z h102 b102 k102 .char (2 : Int32) [(.int (0 : Int32)), (.int (0 : Int32))] (.int (0 : Int32)) := (Arv.new A102 (by decide)).pad (pad_rep [] (.int (0 : Int32)) 2)
 refine yG m 7 #[iv p1, iv p2] [(.ref b102), (.ref b101), (.ref b101)] ?_
 refine yA (fun _ z_ => qJ X102 (Q 4) rfl rfl (yH X102 (Q 5) (yE X102 (Q 6) rfl z_))) ?_
 obtain ⟨c103, Ar103, q103, S103, M103, H103, U103⟩ := V102
 refine qL (stC X102 hx hZ e102 Ar103 (j := (0 : Int32)) (inb_of S103 ⟨by decide, by decide⟩) rfl rfl (Q 7).2) ?_
 intro T103 h103 X103 e103 W103
 have V103 : Arv Z h103 b102 k102 .char (2 : Int32) [(.int p1), (.int (0 : Int32))] (.int (0 : Int32)) := by
  have q := Arv.set Ar103 q103 S103 M103 H103 U103 (fits_nar_char _) W103 0 rfl (Nat.le_of_ble_eq_true rfl)
  rw [uF q1] at q
  exact q
 have K103 := Keep.of_wr W103
 have N103 := Fr.snoc X103 N0 (by omega : n0 ≤ b102)
 have zK103 := K103.1
 refine yA (fun _ z_ => qJ X103 (Q 8) rfl rfl (yH X103 (Q 9) (yE X103 (Q 10) rfl z_))) ?_
 obtain ⟨c104, Ar104, q104, S104, M104, H104, U104⟩ := V103
 refine qL (stC X103 hx hZ e103 Ar104 (j := (1 : Int32)) (inb_of S104 ⟨by decide, by decide⟩) rfl rfl (Q 11).2) ?_
 intro T104 h104 X104 e104 W104
 have V104 : Arv Z h104 b102 k102 .char (2 : Int32) [(.int p1), (.int p2)] (.int (0 : Int32)) := by
  have q := Arv.set Ar104 q104 S104 M104 H104 U104 (fits_nar_char _) W104 1 rfl (Nat.le_of_ble_eq_true rfl)
  rw [uF q2] at q
  exact q
 have K104 := Keep.of_wr W104
 have N104 := Fr.snoc X104 N103 (by omega : n0 ≤ b102)
 have zK104 := K104.1
 have KK105 := yN (yN (yI (yI (Keep.refl h0 []) K101) K102) K103) K104
 have O106 : Old Z n0 h104 := O0.keep KK105 all0
 have F_value_b101 : Fld Z h101 b101 sN2 "value" "[B" .null := D101 (Or.inr (W 36)) (ty := (.array .byte)) (by decide)
 have F_coder_b101 : Fld Z h101 b101 sN2 "coder" "B" (.int (0 : Int32)) := D101 (Or.inr (W 34)) (ty := .byte) (by decide)
 have zo := o_fk [p1, p2]
 obtain ⟨kf107, hf107, hg107, hh107⟩ := zo
 have KK108 := yN (yN (yI (Keep.refl h101 []) K102) K103) K104
 have f109 := (A101.keep KK108)
 have f110 := (F_value_b101.keep KK108 nin0)
 have f111 := (F_coder_b101.keep KK108 nin0)
 refine yL (o_cI X104 hZ (y := mN19) rfl hown (W 11) (W 12) (W 13) (W 10) 1 (iuN hw b101 b102 _ _ _ [p1, p2] kf107 O106 CS UT (Nat.le_of_ble_eq_true rfl) (uJ q1 (o_all1 q2)) hf107 hg107 hh107 f109 (by omega) f110 f111 (Nat.le_of_ble_eq_true rfl) V104) e104 (by decide) rfl (hM rfl) (a := b101) [(.ref b102)] (rest := [(.ref b101)]) pd74 rfl rfl rfl rfl rfl (Q 12)) ?_
 rintro T112 _ _ h112 X112 e112 ⟨rfl, N112q, K112, tt112, zt112, St112⟩
 have zK112 := K112.1
 have N112 := Fr.app N104 N112q
 have lst112 := St112.lt
 have A112 := St112.1
 have KK113 := yN (yN (yN (yI (yI (Keep.refl h0 []) K101) K102) K103) K104) K112
 exact yW X112 hlk e112 hret rfl (uA rfl rfl) (Q 13) (by decide) ⟨N112, b101, tt112, rfl, KK113, by omega, by omega, St112⟩
theorem d68 : yX method_6_code [(0, .new 16, 3), (3, .dup, 1), (4, .iconst 3, 1), (5, .newarray .char, 2), (7, .dup, 1), (8, .iconst 0, 1), (9, .iload_n 0, 1), (10, .castore, 1), (11, .dup, 1), (12, .iconst 1, 1), (13, .iload_n 1, 1), (14, .castore, 1), (15, .dup, 1), (16, .iconst 2, 1), (17, .iload_n 2, 1), (18, .castore, 1), (19, .invokespecial 18, 3), (22, .areturn, 1)] := by decide +kernel
abbrev s3WR : Room := { frames := 6, cells := 4, slots := 67, locals := 88 }
theorem s3W (hw : yQ a0 Z) (p1 p2 p3 : Int32) (O0 : Old Z n0 h0) (CS : uE Z) (UT : uB Z) (q1 : qS p1) (q2 : qS p2) (q3 : qS p3) :
 yZ l Z mN36 method_6_code 3 (some (.object sN2)) [] s3WR #[(.int p1), (.int p2), (.int p3)] h0 (fun v h L => Fr n0 L ∧ ∃ (b t : Nat), v = some (.ref b) ∧ Keep h0 h [] ∧ h0.size ≤ b ∧ h0.size ≤ t ∧ yU Z h b t [p1, p2, p3]) := by
 refine yK (plainFor_of_name pd70) ?_
 intro p e s m below meth c T0 X0 hx hby hml hZ hown hnm hret hlk e0
 have hM := @qK _ _ hml
 have W := qC hw
 have Q := @yR p c _ _ _ hx hby d68
 have N0 := Fr.nil n0
 have zO := yM O0
 refine yP 0 rfl rfl ?_
 refine yG m 0 #[iv p1, iv p2, iv p3] [] ?_
 have zo := newO X0 hx hZ hown (W 8) (W 9) (W 10) e0 (g := (mkF m 0 #[iv p1, iv p2, iv p3] [])) rfl (Q 0).2 (by decide) (by decide)
 obtain ⟨T101, h101, X101, e101, E101, A101, D101, -, st101⟩ := zo
 have zo : ∃ z, z = h0.size := ⟨_, rfl⟩
 obtain ⟨b101, g101⟩ := zo
 rw [← g101] at A101 D101 st101
 have K101 : Keep h0 h101 [] := (Keep.refl _ _).ext E101
 have l101 : b101 < h101.size := A101.lt
 refine yA st101 ?_
 have zK101 := K101.1
 refine yA (fun _ z_ => qJ X101 (Q 1) rfl rfl (yH X101 (Q 2) z_)) ?_
 have zo := newP X101 hx hZ (aty := .char) (W 4) e101 (g := (mkF m 5 #[iv p1, iv p2, iv p3] [(.int (3 : Int32)), (.ref b101), (.ref b101)])) rfl (Q 3).2 rfl (by decide) (cap := 3) (by decide) (by decide) (by decide) (by decide)
 obtain ⟨T102, h102, k102, X102, e102, E102, A102, st102⟩ := zo
 have zo : ∃ z, z = h101.size := ⟨_, rfl⟩
 obtain ⟨b102, g102⟩ := zo
 rw [← g102] at A102 st102
 have K102 : Keep h101 h102 [] := (Keep.refl _ _).ext E102
 have l102 : b102 < h102.size := A102.lt
 refine yA st102 ?_
 have zK102 := K102.1
 have V102 : Arv Z h102 b102 k102 .char (3 : Int32) [(.int (0 : Int32)), (.int (0 : Int32)), (.int (0 : Int32))] (.int (0 : Int32)) := (Arv.new A102 (by decide)).pad (pad_rep [] (.int (0 : Int32)) 3)
 refine yA (fun _ z_ => qJ X102 (Q 4) rfl rfl (yH X102 (Q 5) (yE X102 (Q 6) rfl z_))) ?_
 obtain ⟨c103, Ar103, q103, S103, M103, H103, U103⟩ := V102
 refine qL (stC X102 hx hZ e102 Ar103 (j := (0 : Int32)) (inb_of S103 ⟨by decide, by decide⟩) rfl rfl (Q 7).2) ?_
 intro T103 h103 X103 e103 W103
 have V103 : Arv Z h103 b102 k102 .char (3 : Int32) [(.int p1), (.int (0 : Int32)), (.int (0 : Int32))] (.int (0 : Int32)) := by
  have q := Arv.set Ar103 q103 S103 M103 H103 U103 (fits_nar_char _) W103 0 rfl (Nat.le_of_ble_eq_true rfl)
  rw [uF q1] at q
  exact q
 have K103 := Keep.of_wr W103
 have N103 := Fr.snoc X103 N0 (by omega : n0 ≤ b102)
 have zK103 := K103.1
 refine yA (fun _ z_ => qJ X103 (Q 8) rfl rfl (yH X103 (Q 9) (yE X103 (Q 10) rfl z_))) ?_
 obtain ⟨c104, Ar104, q104, S104, M104, H104, U104⟩ := V103
 refine qL (stC X103 hx hZ e103 Ar104 (j := (1 : Int32)) (inb_of S104 ⟨by decide, by decide⟩) rfl rfl (Q 11).2) ?_
 intro T104 h104 X104 e104 W104
 have V104 : Arv Z h104 b102 k102 .char (3 : Int32) [(.int p1), (.int p2), (.int (0 : Int32))] (.int (0 : Int32)) := by
  have q := Arv.set Ar104 q104 S104 M104 H104 U104 (fits_nar_char _) W104 1 rfl (Nat.le_of_ble_eq_true rfl)
  rw [uF q2] at q
  exact q
 have K104 := Keep.of_wr W104
 have N104 := Fr.snoc X104 N103 (by omega : n0 ≤ b102)
 have zK104 := K104.1
 refine yG m 15 #[iv p1, iv p2, iv p3] [(.ref b102), (.ref b101), (.ref b101)] ?_
 refine yA (fun _ z_ => qJ X104 (Q 12) rfl rfl (yH X104 (Q 13) (yE X104 (Q 14) rfl z_))) ?_
 obtain ⟨c105, Ar105, q105, S105, M105, H105, U105⟩ := V104
 refine qL (stC X104 hx hZ e104 Ar105 (j := (2 : Int32)) (inb_of S105 ⟨by decide, by decide⟩) rfl rfl (Q 15).2) ?_
 intro T105 h105 X105 e105 W105
 have V105 : Arv Z h105 b102 k102 .char (3 : Int32) [(.int p1), (.int p2), (.int p3)] (.int (0 : Int32)) := by
  have q := Arv.set Ar105 q105 S105 M105 H105 U105 (fits_nar_char _) W105 2 rfl (Nat.le_of_ble_eq_true rfl)
  rw [uF q3] at q
  exact q
 have K105 := Keep.of_wr W105
 have N105 := Fr.snoc X105 N104 (by omega : n0 ≤ b102)
 have zK105 := K105.1
 have KK106 := yN (yN (yN (yI (yI (Keep.refl h0 []) K101) K102) K103) K104) K105
 have O107 : Old Z n0 h105 := O0.keep KK106 all0
 have F_value_b101 : Fld Z h101 b101 sN2 "value" "[B" .null := D101 (Or.inr (W 36)) (ty := (.array .byte)) (by decide)
 have F_coder_b101 : Fld Z h101 b101 sN2 "coder" "B" (.int (0 : Int32)) := D101 (Or.inr (W 34)) (ty := .byte) (by decide)
 have zo := o_fk [p1, p2, p3]
 obtain ⟨kf108, hf108, hg108, hh108⟩ := zo
 have KK109 := yN (yN (yN (yI (Keep.refl h101 []) K102) K103) K104) K105
 have f110 := (A101.keep KK109)
 have f111 := (F_value_b101.keep KK109 nin0)
 have f112 := (F_coder_b101.keep KK109 nin0)
 refine yL (o_cI X105 hZ (y := mN19) rfl hown (W 11) (W 12) (W 13) (W 10) 1 (iuN hw b101 b102 _ _ _ [p1, p2, p3] kf108 O107 CS UT (Nat.le_of_ble_eq_true rfl) (uJ q1 (uJ q2 (o_all1 q3))) hf108 hg108 hh108 f110 (by omega) f111 f112 (Nat.le_of_ble_eq_true rfl) V105) e105 (by decide) rfl (hM rfl) (a := b101) [(.ref b102)] (rest := [(.ref b101)]) pd74 rfl rfl rfl rfl rfl (Q 16)) ?_
 rintro T113 _ _ h113 X113 e113 ⟨rfl, N113q, K113, tt113, zt113, St113⟩
 have zK113 := K113.1
 have N113 := Fr.app N105 N113q
 have lst113 := St113.lt
 have A113 := St113.1
 have KK114 := yN (yN (yN (yN (yI (yI (Keep.refl h0 []) K101) K102) K103) K104) K105) K113
 exact yW X113 hlk e113 hret rfl (uA rfl rfl) (Q 17) (by decide) ⟨N113, b101, tt113, rfl, KK114, by omega, by omega, St113⟩
theorem d73 : yX method_7_code [(0, .new 16, 3), (3, .dup, 1), (4, .iconst 4, 1), (5, .newarray .char, 2), (7, .dup, 1), (8, .iconst 0, 1), (9, .iload_n 0, 1), (10, .castore, 1), (11, .dup, 1), (12, .iconst 1, 1), (13, .iload_n 1, 1), (14, .castore, 1), (15, .dup, 1), (16, .iconst 2, 1), (17, .iload_n 2, 1), (18, .castore, 1), (19, .dup, 1), (20, .iconst 3, 1), (21, .iload_n 3, 1), (22, .castore, 1), (23, .invokespecial 18, 3), (26, .areturn, 1)] := by decide +kernel
abbrev s4WR : Room := { frames := 6, cells := 4, slots := 68, locals := 88 }
theorem s4W (hw : yQ a0 Z) (p1 p2 p3 p4 : Int32) (O0 : Old Z n0 h0) (CS : uE Z) (UT : uB Z) (q1 : qS p1) (q2 : qS p2) (q3 : qS p3) (q4 : qS p4) :
 yZ l Z (⟨sN10, "str4", "(CCCC)Ljava/lang/String;"⟩ : MethodName) method_7_code 4 (some (.object sN2)) [] s4WR #[(.int p1), (.int p2), (.int p3), (.int p4)] h0 (fun v h L => Fr n0 L ∧ ∃ (b t : Nat), v = some (.ref b) ∧ Keep h0 h [] ∧ h0.size ≤ b ∧ h0.size ≤ t ∧ yU Z h b t [p1, p2, p3, p4]) := by
 refine yK (plainFor_of_name pd70) ?_
 intro p e s m below meth c T0 X0 hx hby hml hZ hown hnm hret hlk e0
 have hM := @qK _ _ hml
 have W := qC hw
 have Q := @yR p c _ _ _ hx hby d73
 have N0 := Fr.nil n0
 have zO := yM O0
 refine yP 0 rfl rfl ?_
 refine yG m 0 #[iv p1, iv p2, iv p3, iv p4] [] ?_
 have zo := newO X0 hx hZ hown (W 8) (W 9) (W 10) e0 (g := (mkF m 0 #[iv p1, iv p2, iv p3, iv p4] [])) rfl (Q 0).2 (by decide) (by decide)
 obtain ⟨T101, h101, X101, e101, E101, A101, D101, -, st101⟩ := zo
 have zo : ∃ z, z = h0.size := ⟨_, rfl⟩
 obtain ⟨b101, g101⟩ := zo
 rw [← g101] at A101 D101 st101
 have K101 : Keep h0 h101 [] := (Keep.refl _ _).ext E101
 have l101 : b101 < h101.size := A101.lt
 refine yA st101 ?_
 have zK101 := K101.1
 refine yA (fun _ z_ => qJ X101 (Q 1) rfl rfl (yH X101 (Q 2) z_)) ?_
 have zo := newP X101 hx hZ (aty := .char) (W 4) e101 (g := (mkF m 5 #[iv p1, iv p2, iv p3, iv p4] [(.int (4 : Int32)), (.ref b101), (.ref b101)])) rfl (Q 3).2 rfl (by decide) (cap := 4) (by decide) (by decide) (by decide) (by decide)
 obtain ⟨T102, h102, k102, X102, e102, E102, A102, st102⟩ := zo
 have zo : ∃ z, z = h101.size := ⟨_, rfl⟩
 obtain ⟨b102, g102⟩ := zo
 rw [← g102] at A102 st102
 have K102 : Keep h101 h102 [] := (Keep.refl _ _).ext E102
 have l102 : b102 < h102.size := A102.lt
 refine yA st102 ?_
 have zK102 := K102.1
 have V102 : Arv Z h102 b102 k102 .char (4 : Int32) [(.int (0 : Int32)), (.int (0 : Int32)), (.int (0 : Int32)), (.int (0 : Int32))] (.int (0 : Int32)) := (Arv.new A102 (by decide)).pad (pad_rep [] (.int (0 : Int32)) 4)
 refine yA (fun _ z_ => qJ X102 (Q 4) rfl rfl (yH X102 (Q 5) (yE X102 (Q 6) rfl z_))) ?_
 obtain ⟨c103, Ar103, q103, S103, M103, H103, U103⟩ := V102
 refine qL (stC X102 hx hZ e102 Ar103 (j := (0 : Int32)) (inb_of S103 ⟨by decide, by decide⟩) rfl rfl (Q 7).2) ?_
 intro T103 h103 X103 e103 W103
 have V103 : Arv Z h103 b102 k102 .char (4 : Int32) [(.int p1), (.int (0 : Int32)), (.int (0 : Int32)), (.int (0 : Int32))] (.int (0 : Int32)) := by
  have q := Arv.set Ar103 q103 S103 M103 H103 U103 (fits_nar_char _) W103 0 rfl (Nat.le_of_ble_eq_true rfl)
  rw [uF q1] at q
  exact q
 have K103 := Keep.of_wr W103
 have N103 := Fr.snoc X103 N0 (by omega : n0 ≤ b102)
 have zK103 := K103.1
 refine yA (fun _ z_ => qJ X103 (Q 8) rfl rfl (yH X103 (Q 9) (yE X103 (Q 10) rfl z_))) ?_
 obtain ⟨c104, Ar104, q104, S104, M104, H104, U104⟩ := V103
 refine qL (stC X103 hx hZ e103 Ar104 (j := (1 : Int32)) (inb_of S104 ⟨by decide, by decide⟩) rfl rfl (Q 11).2) ?_
 intro T104 h104 X104 e104 W104
 have V104 : Arv Z h104 b102 k102 .char (4 : Int32) [(.int p1), (.int p2), (.int (0 : Int32)), (.int (0 : Int32))] (.int (0 : Int32)) := by
  have q := Arv.set Ar104 q104 S104 M104 H104 U104 (fits_nar_char _) W104 1 rfl (Nat.le_of_ble_eq_true rfl)
  rw [uF q2] at q
  exact q
 have K104 := Keep.of_wr W104
 have N104 := Fr.snoc X104 N103 (by omega : n0 ≤ b102)
 have zK104 := K104.1
 refine yA (fun _ z_ => qJ X104 (Q 12) rfl rfl (yH X104 (Q 13) (yE X104 (Q 14) rfl z_))) ?_
 obtain ⟨c105, Ar105, q105, S105, M105, H105, U105⟩ := V104
 refine qL (stC X104 hx hZ e104 Ar105 (j := (2 : Int32)) (inb_of S105 ⟨by decide, by decide⟩) rfl rfl (Q 15).2) ?_
 intro T105 h105 X105 e105 W105
 have V105 : Arv Z h105 b102 k102 .char (4 : Int32) [(.int p1), (.int p2), (.int p3), (.int (0 : Int32))] (.int (0 : Int32)) := by
  have q := Arv.set Ar105 q105 S105 M105 H105 U105 (fits_nar_char _) W105 2 rfl (Nat.le_of_ble_eq_true rfl)
  rw [uF q3] at q
  exact q
 have K105 := Keep.of_wr W105
 have N105 := Fr.snoc X105 N104 (by omega : n0 ≤ b102)
 have zK105 := K105.1
 refine yG m 19 #[iv p1, iv p2, iv p3, iv p4] [(.ref b102), (.ref b101), (.ref b101)] ?_
 refine yA (fun _ z_ => qJ X105 (Q 16) rfl rfl (yH X105 (Q 17) (yE X105 (Q 18) rfl z_))) ?_
 obtain ⟨c106, Ar106, q106, S106, M106, H106, U106⟩ := V105
 refine qL (stC X105 hx hZ e105 Ar106 (j := (3 : Int32)) (inb_of S106 ⟨by decide, by decide⟩) rfl rfl (Q 19).2) ?_
 intro T106 h106 X106 e106 W106
 have V106 : Arv Z h106 b102 k102 .char (4 : Int32) [(.int p1), (.int p2), (.int p3), (.int p4)] (.int (0 : Int32)) := by
  have q := Arv.set Ar106 q106 S106 M106 H106 U106 (fits_nar_char _) W106 3 rfl (Nat.le_of_ble_eq_true rfl)
  rw [uF q4] at q
  exact q
 have K106 := Keep.of_wr W106
 have N106 := Fr.snoc X106 N105 (by omega : n0 ≤ b102)
 have zK106 := K106.1
 have KK107 := yN (yN (yN (yN (yI (yI (Keep.refl h0 []) K101) K102) K103) K104) K105) K106
 have O108 : Old Z n0 h106 := O0.keep KK107 all0
 have F_value_b101 : Fld Z h101 b101 sN2 "value" "[B" .null := D101 (Or.inr (W 36)) (ty := (.array .byte)) (by decide)
 have F_coder_b101 : Fld Z h101 b101 sN2 "coder" "B" (.int (0 : Int32)) := D101 (Or.inr (W 34)) (ty := .byte) (by decide)
 have zo := o_fk [p1, p2, p3, p4]
 obtain ⟨kf109, hf109, hg109, hh109⟩ := zo
 have KK110 := yN (yN (yN (yN (yI (Keep.refl h101 []) K102) K103) K104) K105) K106
 have f111 := (A101.keep KK110)
 have f112 := (F_value_b101.keep KK110 nin0)
 have f113 := (F_coder_b101.keep KK110 nin0)
 refine yL (o_cI X106 hZ (y := mN19) rfl hown (W 11) (W 12) (W 13) (W 10) 1 (iuN hw b101 b102 _ _ _ [p1, p2, p3, p4] kf109 O108 CS UT (Nat.le_of_ble_eq_true rfl) (uJ q1 (uJ q2 (uJ q3 (o_all1 q4)))) hf109 hg109 hh109 f111 (by omega) f112 f113 (Nat.le_of_ble_eq_true rfl) V106) e106 (by decide) rfl (hM rfl) (a := b101) [(.ref b102)] (rest := [(.ref b101)]) pd74 rfl rfl rfl rfl rfl (Q 20)) ?_
 rintro T114 _ _ h114 X114 e114 ⟨rfl, N114q, K114, tt114, zt114, St114⟩
 have zK114 := K114.1
 have N114 := Fr.app N106 N114q
 have lst114 := St114.lt
 have A114 := St114.1
 have KK115 := yN (yN (yN (yN (yN (yI (yI (Keep.refl h0 []) K101) K102) K103) K104) K105) K106) K114
 exact yW X114 hlk e114 hret rfl (uA rfl rfl) (Q 21) (by decide) ⟨N114, b101, tt114, rfl, KK115, by omega, by omega, St114⟩
theorem d31 : yX prog_5_method_5_code [(0, .aload_n 0, 1), (1, .getfield 13, 3), (4, .ireturn, 1)] := by decide +kernel
abbrev liWR : Room := { frames := 0, cells := 0, slots := 0, locals := 0 }
theorem liW (hw : yQ a0 Z) (a1 : Nat) (u : Int32) (O0 : Old Z n0 h0) (F1 : Fld Z h0 a1 sN3 "line" "I" (.int u)) :
 yZ l Z (⟨sN3, "line", "()I"⟩ : MethodName) prog_5_method_5_code 1 (some .int) [] liWR #[(.ref a1)] h0 (fun v h L => v = some (.int u) ∧ Fr n0 L ∧ h = h0) := by
 refine yK (plainFor_of_name pd63) ?_
 intro p e s m below meth c T0 X0 hx hby hml hZ hown hnm hret hlk e0
 have W := qC hw
 have Q := @yR p c _ _ _ hx hby d31
 have N0 := Fr.nil n0
 have zO := yM O0
 refine yP 0 rfl rfl ?_
 refine yG m 0 #[rv a1] [] ?_
 refine yA (fun _ z_ => yC X0 (Q 0) rfl rfl z_) ?_
 refine yO (yV X0 hZ hown (W 167) e0 F1 rfl rfl (Q 1)) ?_
 intro T101 X101 e101
 exact yW X101 hlk e101 hret rfl o_iI (Q 2) (by decide) ⟨rfl, N0, rfl⟩
theorem d32 : yX prog_5_method_6_code [(0, .aload_n 0, 1), (1, .getfield 19, 3), (4, .areturn, 1)] := by decide +kernel
abbrev flWR : Room := { frames := 0, cells := 0, slots := 0, locals := 0 }
theorem flW (hw : yQ a0 Z) (a1 : Nat) (u : Value) (O0 : Old Z n0 h0) (hu : u.isRef = true) (F1 : Fld Z h0 a1 sN3 "fields" sN22 u) :
 yZ l Z (⟨sN3, "fields", "()Ljava/util/List;"⟩ : MethodName) prog_5_method_6_code 1 (some (.object sN13)) [] flWR #[(.ref a1)] h0 (fun v h L => v = some u ∧ Fr n0 L ∧ h = h0) := by
 refine yK (plainFor_of_name pd63) ?_
 intro p e s m below meth c T0 X0 hx hby hml hZ hown hnm hret hlk e0
 have W := qC hw
 have Q := @yR p c _ _ _ hx hby d32
 have N0 := Fr.nil n0
 have zO := yM O0
 refine yP 0 rfl rfl ?_
 refine yG m 0 #[rv a1] [] ?_
 refine yA (fun _ z_ => yC X0 (Q 0) rfl rfl z_) ?_
 refine yO (yV X0 hZ hown (W 169) e0 F1 rfl rfl (Q 1)) ?_
 intro T101 X101 e101
 exact yW X101 hlk e101 hret (by rcases ref_cases hu with h_ | ⟨_, h_⟩ <;> rw [h_] <;> rfl) (uA rfl hu) (Q 2) (by decide) ⟨rfl, N0, rfl⟩
theorem d34 : yX prog_5_method_7_code [(0, .aload_n 0, 1), (1, .getfield 23, 3), (4, .areturn, 1)] := by decide +kernel
abbrev ftWR : Room := { frames := 0, cells := 0, slots := 0, locals := 0 }
theorem ftW (hw : yQ a0 Z) (a1 : Nat) (u : Value) (O0 : Old Z n0 h0) (hu : u.isRef = true) (F1 : Fld Z h0 a1 sN3 "fault" sN9 u) :
 yZ l Z (⟨sN3, "fault", "()Ljava/lang/String;"⟩ : MethodName) prog_5_method_7_code 1 (some (.object sN2)) [] ftWR #[(.ref a1)] h0 (fun v h L => v = some u ∧ Fr n0 L ∧ h = h0) := by
 refine yK (plainFor_of_name pd63) ?_
 intro p e s m below meth c T0 X0 hx hby hml hZ hown hnm hret hlk e0
 have W := qC hw
 have Q := @yR p c _ _ _ hx hby d34
 have N0 := Fr.nil n0
 have zO := yM O0
 refine yP 0 rfl rfl ?_
 refine yG m 0 #[rv a1] [] ?_
 refine yA (fun _ z_ => yC X0 (Q 0) rfl rfl z_) ?_
 refine yO (yV X0 hZ hown (W 171) e0 F1 rfl rfl (Q 1)) ?_
 intro T101 X101 e101
 exact yW X101 hlk e101 hret (by rcases ref_cases hu with h_ | ⟨_, h_⟩ <;> rw [h_] <;> rfl) (uA rfl hu) (Q 2) (by decide) ⟨rfl, N0, rfl⟩
theorem d69 : yX jdk_44_method_3_code [(0, .aload_n 0, 1), (1, .getfield 24, 3), (4, .getstatic 19, 3), (7, .if_acmp .eq 7, 3), (14, .iconst 1, 1), (15, .ireturn, 1), (10, .iconst 2, 1), (11, .goto 4, 3)] := by decide +kernel
abbrev z121R : Room := { frames := 0, cells := 0, slots := 0, locals := 0 }
theorem z121 (hw : yQ a0 Z) (a1 em : Nat) (O0 : Old Z n0 h0) (EM : o_EM Z em) (F1 : Fld Z h0 a1 sN5 "e1" sN15 (.ref em)) :
 yZ l Z mN37 jdk_44_method_3_code 1 (some .int) [] z121R #[(.ref a1)] h0 (fun v h L => v = some (.int 1) ∧ Fr n0 L ∧ h = h0) := by
 refine yK (plainFor_of_name pd52) ?_
 intro p e s m below meth c T0 X0 hx hby hml hZ hown hnm hret hlk e0
 have W := qC hw
 have Q := @yR p c _ _ _ hx hby d69
 have N0 := Fr.nil n0
 have zO := yM O0
 have zo := EM
 obtain ⟨SE_, lE_⟩ := zo
 have zz0 : Z.heap.size = n0 := O0.1
 refine yP 0 rfl rfl ?_
 refine yG m 0 #[rv a1] [] ?_
 refine yA (fun _ z_ => yC X0 (Q 0) rfl rfl z_) ?_
 refine yO (yV X0 hZ hown (W 397) e0 F1 rfl rfl (Q 1)) ?_
 intro T101 X101 e101
 refine yO (getS2 X101 hx hZ hown (Or.inr (W 396)) Via.refl e101 (SE_.ext O0.2) rfl (Q 2).2) ?_
 intro T102 X102 e102
 refine yA (fun _ z_ => Jvm.RoadKit.acmp (g := (mkF m 7 #[rv a1] [(.ref em), (.ref em)])) X102 hx rfl rfl rfl (pc0 := 7) (pc' := 14) (same := true) rfl (Q 3).2 rfl (decide_eq_true rfl) (by decide) (by decide) (yH X102 (Q 4) z_)) ?_
 refine yG m 15 #[rv a1] [(.int (1 : Int32))] ?_
 exact yW X102 hlk e102 hret rfl o_iI (Q 5) (by decide) ⟨rfl, N0, rfl⟩
abbrev z122R : Room := { frames := 0, cells := 0, slots := 0, locals := 0 }
theorem z122 (hw : yQ a0 Z) (a1 em r1 : Nat) (O0 : Old Z n0 h0) (EM : o_EM Z em) (hr1 : n0 ≤ r1) (F1 : Fld Z h0 a1 sN5 "e1" sN15 (.ref r1)) :
 yZ l Z mN37 jdk_44_method_3_code 1 (some .int) [] z122R #[(.ref a1)] h0 (fun v h L => v = some (.int 2) ∧ Fr n0 L ∧ h = h0) := by
 refine yK (plainFor_of_name pd52) ?_
 intro p e s m below meth c T0 X0 hx hby hml hZ hown hnm hret hlk e0
 have W := qC hw
 have Q := @yR p c _ _ _ hx hby d69
 have N0 := Fr.nil n0
 have zO := yM O0
 have zo := EM
 obtain ⟨SE_, lE_⟩ := zo
 have zz0 : Z.heap.size = n0 := O0.1
 refine yP 0 rfl rfl ?_
 refine yG m 0 #[rv a1] [] ?_
 refine yA (fun _ z_ => yC X0 (Q 0) rfl rfl z_) ?_
 refine yO (yV X0 hZ hown (W 397) e0 F1 rfl rfl (Q 1)) ?_
 intro T101 X101 e101
 refine yO (getS2 X101 hx hZ hown (Or.inr (W 396)) Via.refl e101 (SE_.ext O0.2) rfl (Q 2).2) ?_
 intro T102 X102 e102
 refine yA (fun _ z_ => Jvm.RoadKit.acmp (g := (mkF m 7 #[rv a1] [(.ref em), (.ref r1)])) X102 hx rfl rfl rfl (pc0 := 7) (pc' := 10) (same := false) rfl (Q 3).2 rfl (decide_eq_false fun q => absurd (show (r1 : Nat) = em from Value.ref.inj q) (by omega)) (by decide) (by decide) (yH X102 (Q 6) (yT X102 11 15 rfl (Q 7) (by decide) z_))) ?_
 exact yW X102 hlk e102 hret rfl o_iI (Q 5) (by decide) ⟨rfl, N0, rfl⟩
theorem d33 : yX jdk_45_method_3_code [(0, .aload_n 0, 1), (1, .getfield 7, 3), (4, .arraylength, 1), (5, .ireturn, 1)] := by decide +kernel
abbrev zLNR : Room := { frames := 0, cells := 0, slots := 0, locals := 0 }
theorem zLN (hw : yQ a0 Z) (a1 ea : Nat) (k1 : ClassId) (n : Int32) (vs : List Value) (O0 : Old Z n0 h0) (F1 : Fld Z h0 a1 sN12 "elements" sN8 (.ref ea)) (V1 : Arv Z h0 ea k1 uW n vs .null) :
 yZ l Z mN55 jdk_45_method_3_code 1 (some .int) [] zLNR #[(.ref a1)] h0 (fun v h L => v = some (.int n) ∧ Fr n0 L ∧ h = h0) := by
 refine yK (plainFor_of_name pd53) ?_
 intro p e s m below meth c T0 X0 hx hby hml hZ hown hnm hret hlk e0
 have W := qC hw
 have Q := @yR p c _ _ _ hx hby d33
 have N0 := Fr.nil n0
 have zO := yM O0
 refine yP 0 rfl rfl ?_
 refine yG m 0 #[rv a1] [] ?_
 refine yA (fun _ z_ => yC X0 (Q 0) rfl rfl z_) ?_
 refine yO (yV X0 hZ hown (W 196) e0 F1 rfl rfl (Q 1)) ?_
 intro T101 X101 e101
 have zo := V1
 obtain ⟨c102, Ar102, q102, S102, M102, H102, U102⟩ := zo
 refine yA (X101.arraylength hx (by rw [e101]; exact Ar102.1) (State.isArrayOf_alike hZ.alike Ar102.2.1) (g := (mkF m 4 #[rv a1] [(.ref ea)])) rfl rfl (Q 2).2) ?_
 rw [len_of S102 M102]
 exact yW X101 hlk e101 hret rfl o_iI (Q 3) (by decide) ⟨rfl, N0, rfl⟩
theorem d70 : yX jdk_44_method_5_code [(0, .iload_n 1, 1), (1, .ifCond .ne 8, 3), (4, .aload_n 0, 1), (5, .getfield 13, 3), (8, .areturn, 1), (9, .iload_n 1, 1), (10, .iconst 1, 1), (11, .if_icmp .ne 18, 3), (14, .aload_n 0, 1), (15, .getfield 24, 3), (18, .getstatic 19, 3), (21, .if_acmp .eq 8, 3), (24, .aload_n 0, 1), (25, .getfield 24, 3), (28, .areturn, 1)] := by decide +kernel
abbrev g120R : Room := { frames := 0, cells := 0, slots := 0, locals := 0 }
theorem g120 (hw : yQ a0 Z) (a1 r0 : Nat) (O0 : Old Z n0 h0) (F1 : Fld Z h0 a1 sN5 "e0" sN15 (.ref r0)) :
 yZ l Z mN25 jdk_44_method_5_code 2 (some (.object sN6)) [] g120R #[(.ref a1), (.int (0 : Int32))] h0 (fun v h L => v = some (.ref r0) ∧ Fr n0 L ∧ h = h0) := by
 refine yK (plainFor_of_name pd52) ?_
 intro p e s m below meth c T0 X0 hx hby hml hZ hown hnm hret hlk e0
 have W := qC hw
 have Q := @yR p c _ _ _ hx hby d70
 have N0 := Fr.nil n0
 have zO := yM O0
 refine yP 0 rfl rfl ?_
 refine yG m 0 #[rv a1, iv (0 : Int32)] [] ?_
 refine yA (fun _ z_ => yE X0 (Q 0) rfl (qA X0 (Q 1) rfl ((if0 _ _).trans (teq (by decide)).2) (yC X0 (Q 2) rfl rfl z_))) ?_
 refine yO (yV X0 hZ hown (W 394) e0 F1 rfl rfl (Q 3)) ?_
 intro T101 X101 e101
 exact yW X101 hlk e101 hret rfl (uA rfl rfl) (Q 4) (by decide) ⟨rfl, N0, rfl⟩
abbrev g121R : Room := { frames := 0, cells := 0, slots := 0, locals := 0 }
theorem g121 (hw : yQ a0 Z) (a1 em r1 : Nat) (O0 : Old Z n0 h0) (EM : o_EM Z em) (hr1 : n0 ≤ r1) (F1 : Fld Z h0 a1 sN5 "e1" sN15 (.ref r1)) :
 yZ l Z mN25 jdk_44_method_5_code 2 (some (.object sN6)) [] g121R #[(.ref a1), (.int (1 : Int32))] h0 (fun v h L => v = some (.ref r1) ∧ Fr n0 L ∧ h = h0) := by
 refine yK (plainFor_of_name pd52) ?_
 intro p e s m below meth c T0 X0 hx hby hml hZ hown hnm hret hlk e0
 have W := qC hw
 have Q := @yR p c _ _ _ hx hby d70
 have N0 := Fr.nil n0
 have zO := yM O0
 have zo := EM
 obtain ⟨SE_, lE_⟩ := zo
 have zz0 : Z.heap.size = n0 := O0.1
 refine yP 0 rfl rfl ?_
 refine yG m 0 #[rv a1, iv (1 : Int32)] [] ?_
 refine yA (fun _ z_ => yE X0 (Q 0) rfl (qF X0 1 9 rfl (Q 1) rfl ((if0 _ _).trans (feq (by decide)).2) (by decide) (yE X0 (Q 5) rfl (yH X0 (Q 6) (qH X0 (Q 7) rfl (teq (by decide)).2 z_))))) ?_
 refine yA (fun _ z_ => yC X0 (Q 8) rfl rfl z_) ?_
 refine yO (yV X0 hZ hown (W 397) e0 F1 rfl rfl (Q 9)) ?_
 intro T101 X101 e101
 refine yO (getS2 X101 hx hZ hown (Or.inr (W 396)) Via.refl e101 (SE_.ext O0.2) rfl (Q 10).2) ?_
 intro T102 X102 e102
 refine yG m 21 #[rv a1, iv (1 : Int32)] [(.ref em), (.ref r1)] ?_
 refine yA (fun _ z_ => Jvm.RoadKit.acmp (g := (mkF m 21 #[rv a1, iv (1 : Int32)] [(.ref em), (.ref r1)])) X102 hx rfl rfl rfl (pc0 := 21) (pc' := 24) (same := false) rfl (Q 11).2 rfl (decide_eq_false fun q => absurd (show (r1 : Nat) = em from Value.ref.inj q) (by omega)) (by decide) (by decide) (yC X102 (Q 12) rfl rfl z_)) ?_
 refine yO (yV X102 hZ hown (W 397) e102 F1 rfl rfl (Q 13)) ?_
 intro T103 X103 e103
 exact yW X103 hlk e103 hret rfl (uA rfl rfl) (Q 14) (by decide) ⟨rfl, N0, rfl⟩
theorem d102 : yX jdk_45_method_4_code [(0, .aload_n 0, 1), (1, .getfield 7, 3), (4, .iload_n 1, 1), (5, .aaload, 1), (6, .areturn, 1)] := by decide +kernel
abbrev gLNR : Room := { frames := 0, cells := 0, slots := 0, locals := 0 }
theorem gLN (hw : yQ a0 Z) (a1 ea r : Nat) (k1 : ClassId) (i : Int32) (vs : List Value) (O0 : Old Z n0 h0) (hi : ¬ i < 0 ∧ i < 3) (hv : vs.getD i.toNatClampNeg .null = .ref r) (F1 : Fld Z h0 a1 sN12 "elements" sN8 (.ref ea)) (V1 : Arv Z h0 ea k1 uW (3 : Int32) vs .null) :
 yZ l Z mN38 jdk_45_method_4_code 2 (some (.object sN6)) [] gLNR #[(.ref a1), (.int i)] h0 (fun v h L => v = some (.ref r) ∧ Fr n0 L ∧ h = h0) := by
 refine yK (plainFor_of_name pd53) ?_
 intro p e s m below meth c T0 X0 hx hby hml hZ hown hnm hret hlk e0
 have W := qC hw
 have Q := @yR p c _ _ _ hx hby d102
 have N0 := Fr.nil n0
 have zO := yM O0
 refine yP 0 rfl rfl ?_
 refine yG m 0 #[rv a1, iv i] [] ?_
 refine yA (fun _ z_ => yC X0 (Q 0) rfl rfl z_) ?_
 refine yO (yV X0 hZ hown (W 196) e0 F1 rfl rfl (Q 1)) ?_
 intro T101 X101 e101
 refine yA (fun _ z_ => yE X101 (Q 2) rfl z_) ?_
 have zo := V1
 obtain ⟨c102, Ar102, q102, S102, M102, H102, U102⟩ := zo
 have hi102 := inb_of (j := i) S102 hi
 refine yA (X101.aaload hx (j := i) (v := (.ref r)) (by rw [e101]; exact Ar102.1) (State.isArrayOf_alike hZ.alike Ar102.2.1) rfl Ar102.2.2 hi102 (H102.at hi102 hv) (g := (mkF m 5 #[rv a1, iv i] [(.int i), (.ref ea)])) rfl rfl (Q 3).2) ?_
 exact yW X101 hlk e101 hret rfl (uA rfl rfl) (Q 4) (by decide) ⟨rfl, N0, rfl⟩
theorem o_wl {W a b n : Nat} (h : a + b ≤ n) : W + a + b ≤ W + n := by omega
theorem o_FSg {Z : State} {h : Heap} : ∀ {rs ts : List Nat} {fs : List (List Int32)} {i : Nat}, qT Z h rs ts fs → i < rs.length → qQ Z h (rs.getD i 0) (fs.getD i [])
 | _ :: _, _ :: _, _ :: _, 0, S, _ => S.1.str
 | _ :: rs, _ :: _, _ :: fs, i + 1, S, q => show qQ Z h (rs.getD i 0) (fs.getD i []) from o_FSg S.2 (Nat.lt_of_succ_lt_succ q)
theorem szC {p : Program} {l : Launch} {e : Env} {R : Room} {s : State} {m : MethodId} {args : Array Value} {below : List Frame} {meth : Method} {c : Code} {T : State} {locs : List Loc} {cells slots : Nat} {Z : State} {a0 : Array Value} {h : Heap} {n0 b u em : Nat} {rs : List Nat} (X : Stand p l e R s m args below meth c T locs cells slots) (hx : p.tables.exec = Jvm.exec) (hZ : Z.Warmed39 s.vm) (hw : yQ a0 Z) (hown : s.vm.findClass sN10 = some m.cls) (O : Old Z n0 h) (EM : o_EM Z em) (LS : o_LS Z h n0 b u rs) (eT : T.heap = h) (N : Fr n0 locs) {g : JFrame} (hg : g.method = m) (hsize : g.locals.size = c.maxLocals) {rest : List Value} (hs : g.stack = .ref b :: rest) (hd : decode c.code g.pc = .ok (.invokeinterface 63 1, 5)) {Wd : Nat} (hW : 2 * g.monitorRoom + (rest.map fun v => v.category).sum ≤ Wd) (hf : 1 ≤ R.frames) (hl : Wd + 12 ≤ R.locals) (hc : cells ≤ R.cells) (hsl : slots ≤ R.slots) :
 ∃ T' L, Stand p l e R s m args below meth c T' L cells slots ∧ T'.heap = h ∧ Fr n0 L ∧ ∀ t, Steps p.tables e below (T'.setTop { g with pc := g.pc + 5, stack := .int (ofNat rs.length) :: rest }) t → Steps p.tables e below (T.setTop g) t := by
 have W := qC hw
 match rs, LS with
 | [], LS =>
  obtain ⟨-, EL_, ea, kE, FE, VE⟩ := id LS
  have KZ : Keep Z.heap h [] := (Keep.refl _ _).ext O.2
  replace EL_ := EL_.keep KZ
  replace FE := FE.keep KZ nin0
  replace VE := VE.keep KZ nin0
  obtain ⟨T', v, L, h', X', e', ⟨rfl, Nq, hq⟩, st⟩ := o_callF X hx hZ (y := mN39) (z := mN55) hown (W 186) (W 187) (mvT hZ (W 188)) (W 189) (W 190) (W 191) (W 192) (W 193) (by decide) (qY (W := Wd) (zLN hw b ea _ _ _ O FE VE) hZ (W 195) (W 194) (Nat.le_trans (by decide) hf) (Nat.le_trans (o_wl (by decide)) hl)) eT EL_ hc hsl hg hsize (argsL := []) (rest := rest) (lenOf pd19 rfl) hs rfl hW hd
  exact ⟨T', _, X', e'.trans hq, Fr.app N Nq, st⟩
 | [r0], LS =>
  obtain ⟨em2, EM2, EL_, FE0, FE1⟩ := id LS
  obtain ⟨T', v, L, h', X', e', ⟨rfl, Nq, hq⟩, st⟩ := o_callF X hx hZ (y := mN39) (z := mN37) hown (W 186) (W 187) (mvT hZ (W 188)) (W 402) (W 403) (W 404) (W 405) (W 406) (by decide) (qY (W := Wd) (z121 hw b em2 O EM2 FE1) hZ (W 407) (W 371) (Nat.le_trans (by decide) hf) (Nat.le_trans (o_wl (by decide)) hl)) eT EL_ hc hsl hg hsize (argsL := []) (rest := rest) (lenOf pd19 rfl) hs rfl hW hd
  exact ⟨T', _, X', e'.trans hq, Fr.app N Nq, st⟩
 | [r0, r1], LS =>
  obtain ⟨hr1, EL_, FE0, FE1⟩ := id LS
  obtain ⟨T', v, L, h', X', e', ⟨rfl, Nq, hq⟩, st⟩ := o_callF X hx hZ (y := mN39) (z := mN37) hown (W 186) (W 187) (mvT hZ (W 188)) (W 402) (W 403) (W 404) (W 405) (W 406) (by decide) (qY (W := Wd) (z122 hw b em r1 O EM hr1 FE1) hZ (W 407) (W 371) (Nat.le_trans (by decide) hf) (Nat.le_trans (o_wl (by decide)) hl)) eT EL_ hc hsl hg hsize (argsL := []) (rest := rest) (lenOf pd19 rfl) hs rfl hW hd
  exact ⟨T', _, X', e'.trans hq, Fr.app N Nq, st⟩
 | [r0, r1, r2], LS =>
  obtain ⟨EL_, kE, FE, VE⟩ := id LS
  obtain ⟨T', v, L, h', X', e', ⟨rfl, Nq, hq⟩, st⟩ := o_callF X hx hZ (y := mN39) (z := mN55) hown (W 186) (W 187) (mvT hZ (W 188)) (W 189) (W 190) (W 191) (W 192) (W 193) (by decide) (qY (W := Wd) (zLN hw b u _ _ _ O FE VE) hZ (W 195) (W 194) (Nat.le_trans (by decide) hf) (Nat.le_trans (o_wl (by decide)) hl)) eT EL_ hc hsl hg hsize (argsL := []) (rest := rest) (lenOf pd19 rfl) hs rfl hW hd
  exact ⟨T', _, X', e'.trans hq, Fr.app N Nq, st⟩
 | _ :: _ :: _ :: _ :: _, LS => exact LS.elim
theorem pd75 : parseMethodDescriptor "(I)Ljava/lang/Object;" = some ⟨[.int], some (.object sN6)⟩ := by decide +kernel
theorem gtC0 {p : Program} {l : Launch} {e : Env} {R : Room} {s : State} {m : MethodId} {args : Array Value} {below : List Frame} {meth : Method} {c : Code} {T : State} {locs : List Loc} {cells slots : Nat} {Z : State} {a0 : Array Value} {h : Heap} {n0 b u em : Nat} {rs ts : List Nat} {fs : List (List Int32)} (X : Stand p l e R s m args below meth c T locs cells slots) (hx : p.tables.exec = Jvm.exec) (hZ : Z.Warmed39 s.vm) (hw : yQ a0 Z) (hown : s.vm.findClass sN10 = some m.cls) (O : Old Z n0 h) (EM : o_EM Z em) (LS : o_LS Z h n0 b u rs) (FS : qT Z h rs ts fs) (hi : 0 < rs.length) (eT : T.heap = h) (N : Fr n0 locs) {g : JFrame} (hg : g.method = m) (hsize : g.locals.size = c.maxLocals) {rest : List Value} (hs : g.stack = .int 0 :: .ref b :: rest) (hd : decode c.code g.pc = .ok (.invokeinterface 68 2, 5)) {Wd : Nat} (hW : 2 * g.monitorRoom + (rest.map fun v => v.category).sum ≤ Wd) (hf : 1 ≤ R.frames) (hl : Wd + 13 ≤ R.locals) (hc : cells ≤ R.cells) (hsl : slots ≤ R.slots) :
 ∃ T' L r, Stand p l e R s m args below meth c T' L cells slots ∧ T'.heap = h ∧ Fr n0 L ∧ qQ Z h r (fs.getD 0 []) ∧ ∀ t, Steps p.tables e below (T'.setTop { g with pc := g.pc + 5, stack := .ref r :: rest }) t → Steps p.tables e below (T.setTop g) t := by
 have W := qC hw
 have SR := o_FSg FS hi
 match rs, LS, hi, SR with
 | [r0], LS, _, SR =>
  obtain ⟨em2, EM2, EL_, FE0, FE1⟩ := id LS
  obtain ⟨T', v, L, h', X', e', ⟨rfl, Nq, hq⟩, st⟩ := o_callF X hx hZ (y := mN17) (z := mN25) hown (W 408) (W 409) (mvT hZ (W 410)) (W 411) (W 412) (W 413) (W 414) (W 406) (by decide) (qY (W := Wd) (g120 hw b r0 O FE0) hZ (W 415) (W 371) (Nat.le_trans (by decide) hf) (Nat.le_trans (o_wl (by decide)) hl)) eT EL_ hc hsl hg hsize (argsL := [.int 0]) (rest := rest) (lenOf pd75 rfl) hs rfl hW hd
  exact ⟨T', _, r0, X', e'.trans hq, Fr.app N Nq, SR, st⟩
 | [r0, r1], LS, _, SR =>
  obtain ⟨hr1, EL_, FE0, FE1⟩ := id LS
  obtain ⟨T', v, L, h', X', e', ⟨rfl, Nq, hq⟩, st⟩ := o_callF X hx hZ (y := mN17) (z := mN25) hown (W 408) (W 409) (mvT hZ (W 410)) (W 411) (W 412) (W 413) (W 414) (W 406) (by decide) (qY (W := Wd) (g120 hw b r0 O FE0) hZ (W 415) (W 371) (Nat.le_trans (by decide) hf) (Nat.le_trans (o_wl (by decide)) hl)) eT EL_ hc hsl hg hsize (argsL := [.int 0]) (rest := rest) (lenOf pd75 rfl) hs rfl hW hd
  exact ⟨T', _, r0, X', e'.trans hq, Fr.app N Nq, SR, st⟩
 | [r0, r1, r2], LS, _, SR =>
  obtain ⟨EL_, kE, FE, VE⟩ := id LS
  obtain ⟨T', v, L, h', X', e', ⟨rfl, Nq, hq⟩, st⟩ := o_callF X hx hZ (y := mN17) (z := mN38) hown (W 408) (W 409) (mvT hZ (W 410)) (W 544) (W 545) (W 546) (W 547) (W 193) (by decide) (qY (W := Wd) (gLN hw b u r0 _ 0 [.ref r0, .ref r1, .ref r2] O (by decide) rfl FE VE) hZ (W 548) (W 194) (Nat.le_trans (by decide) hf) (Nat.le_trans (o_wl (by decide)) hl)) eT EL_ hc hsl hg hsize (argsL := [.int 0]) (rest := rest) (lenOf pd75 rfl) hs rfl hW hd
  exact ⟨T', _, r0, X', e'.trans hq, Fr.app N Nq, SR, st⟩
 | [], _, hi, _ => exact absurd hi (show ¬ 0 < 0 from by decide)
 | _ :: _ :: _ :: _ :: _, LS, _, _ => exact LS.elim
theorem gtC1 {p : Program} {l : Launch} {e : Env} {R : Room} {s : State} {m : MethodId} {args : Array Value} {below : List Frame} {meth : Method} {c : Code} {T : State} {locs : List Loc} {cells slots : Nat} {Z : State} {a0 : Array Value} {h : Heap} {n0 b u em : Nat} {rs ts : List Nat} {fs : List (List Int32)} (X : Stand p l e R s m args below meth c T locs cells slots) (hx : p.tables.exec = Jvm.exec) (hZ : Z.Warmed39 s.vm) (hw : yQ a0 Z) (hown : s.vm.findClass sN10 = some m.cls) (O : Old Z n0 h) (EM : o_EM Z em) (LS : o_LS Z h n0 b u rs) (FS : qT Z h rs ts fs) (hi : 1 < rs.length) (eT : T.heap = h) (N : Fr n0 locs) {g : JFrame} (hg : g.method = m) (hsize : g.locals.size = c.maxLocals) {rest : List Value} (hs : g.stack = .int 1 :: .ref b :: rest) (hd : decode c.code g.pc = .ok (.invokeinterface 68 2, 5)) {Wd : Nat} (hW : 2 * g.monitorRoom + (rest.map fun v => v.category).sum ≤ Wd) (hf : 1 ≤ R.frames) (hl : Wd + 13 ≤ R.locals) (hc : cells ≤ R.cells) (hsl : slots ≤ R.slots) :
 ∃ T' L r, Stand p l e R s m args below meth c T' L cells slots ∧ T'.heap = h ∧ Fr n0 L ∧ qQ Z h r (fs.getD 1 []) ∧ ∀ t, Steps p.tables e below (T'.setTop { g with pc := g.pc + 5, stack := .ref r :: rest }) t → Steps p.tables e below (T.setTop g) t := by
 have W := qC hw
 have SR := o_FSg FS hi
 match rs, LS, hi, SR with
 | [r0, r1], LS, _, SR =>
  obtain ⟨hr1, EL_, FE0, FE1⟩ := id LS
  obtain ⟨T', v, L, h', X', e', ⟨rfl, Nq, hq⟩, st⟩ := o_callF X hx hZ (y := mN17) (z := mN25) hown (W 408) (W 409) (mvT hZ (W 410)) (W 411) (W 412) (W 413) (W 414) (W 406) (by decide) (qY (W := Wd) (g121 hw b em r1 O EM hr1 FE1) hZ (W 415) (W 371) (Nat.le_trans (by decide) hf) (Nat.le_trans (o_wl (by decide)) hl)) eT EL_ hc hsl hg hsize (argsL := [.int 1]) (rest := rest) (lenOf pd75 rfl) hs rfl hW hd
  exact ⟨T', _, r1, X', e'.trans hq, Fr.app N Nq, SR, st⟩
 | [r0, r1, r2], LS, _, SR =>
  obtain ⟨EL_, kE, FE, VE⟩ := id LS
  obtain ⟨T', v, L, h', X', e', ⟨rfl, Nq, hq⟩, st⟩ := o_callF X hx hZ (y := mN17) (z := mN38) hown (W 408) (W 409) (mvT hZ (W 410)) (W 544) (W 545) (W 546) (W 547) (W 193) (by decide) (qY (W := Wd) (gLN hw b u r1 _ 1 [.ref r0, .ref r1, .ref r2] O (by decide) rfl FE VE) hZ (W 548) (W 194) (Nat.le_trans (by decide) hf) (Nat.le_trans (o_wl (by decide)) hl)) eT EL_ hc hsl hg hsize (argsL := [.int 1]) (rest := rest) (lenOf pd75 rfl) hs rfl hW hd
  exact ⟨T', _, r1, X', e'.trans hq, Fr.app N Nq, SR, st⟩
 | [], _, hi, _ => exact absurd hi (show ¬ 1 < 0 from by decide)
 | [_], _, hi, _ => exact absurd hi (show ¬ 1 < 1 from by decide)
 | _ :: _ :: _ :: _ :: _, LS, _, _ => exact LS.elim
theorem gtC2 {p : Program} {l : Launch} {e : Env} {R : Room} {s : State} {m : MethodId} {args : Array Value} {below : List Frame} {meth : Method} {c : Code} {T : State} {locs : List Loc} {cells slots : Nat} {Z : State} {a0 : Array Value} {h : Heap} {n0 b u em : Nat} {rs ts : List Nat} {fs : List (List Int32)} (X : Stand p l e R s m args below meth c T locs cells slots) (hx : p.tables.exec = Jvm.exec) (hZ : Z.Warmed39 s.vm) (hw : yQ a0 Z) (hown : s.vm.findClass sN10 = some m.cls) (O : Old Z n0 h) (EM : o_EM Z em) (LS : o_LS Z h n0 b u rs) (FS : qT Z h rs ts fs) (hi : 2 < rs.length) (eT : T.heap = h) (N : Fr n0 locs) {g : JFrame} (hg : g.method = m) (hsize : g.locals.size = c.maxLocals) {rest : List Value} (hs : g.stack = .int 2 :: .ref b :: rest) (hd : decode c.code g.pc = .ok (.invokeinterface 68 2, 5)) {Wd : Nat} (hW : 2 * g.monitorRoom + (rest.map fun v => v.category).sum ≤ Wd) (hf : 1 ≤ R.frames) (hl : Wd + 13 ≤ R.locals) (hc : cells ≤ R.cells) (hsl : slots ≤ R.slots) :
 ∃ T' L r, Stand p l e R s m args below meth c T' L cells slots ∧ T'.heap = h ∧ Fr n0 L ∧ qQ Z h r (fs.getD 2 []) ∧ ∀ t, Steps p.tables e below (T'.setTop { g with pc := g.pc + 5, stack := .ref r :: rest }) t → Steps p.tables e below (T.setTop g) t := by
 have W := qC hw
 have SR := o_FSg FS hi
 match rs, LS, hi, SR with
 | [r0, r1, r2], LS, _, SR =>
  obtain ⟨EL_, kE, FE, VE⟩ := id LS
  obtain ⟨T', v, L, h', X', e', ⟨rfl, Nq, hq⟩, st⟩ := o_callF X hx hZ (y := mN17) (z := mN38) hown (W 408) (W 409) (mvT hZ (W 410)) (W 544) (W 545) (W 546) (W 547) (W 193) (by decide) (qY (W := Wd) (gLN hw b u r2 _ 2 [.ref r0, .ref r1, .ref r2] O (by decide) rfl FE VE) hZ (W 548) (W 194) (Nat.le_trans (by decide) hf) (Nat.le_trans (o_wl (by decide)) hl)) eT EL_ hc hsl hg hsize (argsL := [.int 2]) (rest := rest) (lenOf pd75 rfl) hs rfl hW hd
  exact ⟨T', _, r2, X', e'.trans hq, Fr.app N Nq, SR, st⟩
 | [], _, hi, _ => exact absurd hi (show ¬ 2 < 0 from by decide)
 | [_], _, hi, _ => exact absurd hi (show ¬ 2 < 1 from by decide)
 | [_, _], _, hi, _ => exact absurd hi (show ¬ 2 < 2 from by decide)
 | _ :: _ :: _ :: _ :: _, LS, _, _ => exact LS.elim
theorem o_gl30 {fs : List (List Int32)} {i : Nat} (h : ∀ f ∈ fs, f.length < 16) : (fs.getD i []).length ≤ 30 := by
 rw [List.getD_eq_getElem?_getD]
 cases e : fs[i]? with
 | none => exact Nat.zero_le _
 | some f => have := h f (List.mem_of_getElem? e); show f.length ≤ 30; omega
def o_PS (Z : State) (h : Heap) (fs : List (List Int32)) (f0 f1 f2 : Value) : Prop := (0 < fs.length → ∃ p : Nat, f0 = .ref p ∧ qQ Z h p (fs.getD 0 [])) ∧ (1 < fs.length → ∃ p : Nat, f1 = .ref p ∧ qQ Z h p (fs.getD 1 [])) ∧ (2 < fs.length → ∃ p : Nat, f2 = .ref p ∧ qQ Z h p (fs.getD 2 []))
theorem o_PS.g0 {Z : State} {h : Heap} {fs : List (List Int32)} {f0 f1 f2 : Value} (P : o_PS Z h fs f0 f1 f2) (q : 0 < fs.length) : ∃ p : Nat, f0 = .ref p ∧ qQ Z h p (fs.getD 0 []) := P.1 q
theorem o_PS.g1 {Z : State} {h : Heap} {fs : List (List Int32)} {f0 f1 f2 : Value} (P : o_PS Z h fs f0 f1 f2) (q : 1 < fs.length) : ∃ p : Nat, f1 = .ref p ∧ qQ Z h p (fs.getD 1 []) := P.2.1 q
theorem o_PS.g2 {Z : State} {h : Heap} {fs : List (List Int32)} {f0 f1 f2 : Value} (P : o_PS Z h fs f0 f1 f2) (q : 2 < fs.length) : ∃ p : Nat, f2 = .ref p ∧ qQ Z h p (fs.getD 2 []) := P.2.2 q
theorem d30 : yX method_8_code [(0, .aload_n 0, 1), (1, .ifnull 11, 3), (4, .aload_n 0, 1), (5, .invokevirtual 53, 3), (8, .iload_n 1, 1), (9, .if_icmp .eq 5, 3), (14, .aload_n 0, 1), (15, .invokevirtual 59, 3), (18, .astore 7, 2), (20, .aload 7, 2), (22, .invokeinterface 63 1, 5), (27, .iload_n 2, 1), (28, .if_icmp .eq 5, 3), (33, .iload_n 2, 1), (34, .ifCond .le 23, 3), (37, .aload 7, 2), (39, .iconst 0, 1), (40, .invokeinterface 68 2, 5), (45, .checkcast 16, 3), (48, .aload_n 3, 1), (49, .invokevirtual 72, 3), (52, .ifCond .ne 5, 3), (57, .iload_n 2, 1), (58, .iconst 1, 1), (59, .if_icmp .le 24, 3), (62, .aload 7, 2), (64, .iconst 1, 1), (65, .invokeinterface 68 2, 5), (70, .checkcast 16, 3), (73, .aload 4, 2), (75, .invokevirtual 72, 3), (78, .ifCond .ne 5, 3), (83, .iload_n 2, 1), (84, .iconst 2, 1), (85, .if_icmp .le 24, 3), (88, .aload 7, 2), (90, .iconst 2, 1), (91, .invokeinterface 68 2, 5), (96, .checkcast 16, 3), (99, .aload 5, 2), (101, .invokevirtual 72, 3), (104, .ifCond .ne 5, 3), (109, .aload_n 0, 1), (110, .invokevirtual 76, 3), (113, .astore 8, 2), (115, .iload 6, 2), (117, .ifCond .ne 14, 3), (120, .aload 8, 2), (122, .ifnonnull 7, 3), (125, .iconst 1, 1), (126, .goto 4, 3), (130, .ireturn, 1), (131, .iload 6, 2), (133, .iconst 1, 1), (134, .if_icmp .ne 11, 3), (137, .ldc 80, 2), (139, .aload 8, 2), (141, .invokevirtual 72, 3), (144, .ireturn, 1), (145, .ldc 82, 2), (147, .aload 8, 2), (149, .invokevirtual 72, 3), (152, .ireturn, 1)] := by decide +kernel
theorem ef_ckW (m : MethodId) (x0 : Addr) (x1 : Int32) (x2 : Int32) (x3 : Value) (hx3 : x3.isRef = true) (x4 : Value) (hx4 : x4.isRef = true) (x5 : Value) (hx5 : x5.isRef = true) (x6 : Int32) : entryFrame m #[(.ref x0), (.int x1), (.int x2), x3, x4, x5, (.int x6)] 9 = mkF m 0 #[rv x0, iv x1, iv x2, .val x3, .val x4, .val x5, iv x6, .unset, .unset] [] := by rcases ref_cases hx3 with rfl | ⟨_, rfl⟩ <;> rcases ref_cases hx4 with rfl | ⟨_, rfl⟩ <;> rcases ref_cases hx5 with rfl | ⟨_, rfl⟩ <;> (first | (simp [entryFrame, mkF, argsToLocals, Value.category]; done) | rfl)
abbrev ckWR : Room := { frames := 2, cells := 2, slots := 100, locals := 28 }
theorem ckW (hw : yQ a0 Z) (a1 em s_ t_ qn : Nat) (rs ts : List Nat) (fs : List (List Int32)) (ln : Int32) (fv f0 f1 f2 : Value) (O0 : Old Z n0 h0) (CS : uE Z) (EM : o_EM Z em) (hf0 : f0.isRef = true) (hf1 : f1.isRef = true) (hf2 : f2.isRef = true) (hfv : fv.isRef = true) (hrl : rs.length ≤ 3) (RO : o_Row Z h0 n0 a1 ln rs fv) (FV : uX Z h0 fv qn s_ t_) (FSx : qT Z h0 rs ts fs) (PS : o_PS Z h0 fs f0 f1 f2) (hf30 : ∀ f ∈ fs, f.length < 16) :
 o_CW l Z mN3 method_8_code 9 (some .boolean) [] ckWR #[(.ref a1), (.int ln), (.int (ofNat rs.length)), f0, f1, f2, (.int (ofNat qn))] h0 (fun v h L => v = some (.int 1) ∧ Fr n0 L ∧ Keep h0 h []) := by
 refine o_bodyW (plainFor_of_name pd70) ?_
 intro p e s m below meth c T0 X0 hx hby hml hZ hown hnm hret hlk e0 hS CR
 have hM := @qK _ _ hml
 have hEL := o_hEL hw
 have W := qC hw
 have Q := @yR p c _ _ _ hx hby d30
 have N0 := Fr.nil n0
 have zO := yM O0
 have zo := RO
 obtain ⟨ER, FL, FF, bl, ul, FB, LSx⟩ := zo
 have hfl := FSx.len
 refine yD (fun _ z_ => castTop (ef_ckW m a1 ln (ofNat rs.length) f0 hf0 f1 hf1 f2 hf2 (ofNat qn)) (yC X0 (Q 0) rfl rfl (XS.ifnullNo X0.here hx rfl (Q 1).2 rfl (yC X0 (Q 2) rfl rfl z_)))) ?_
 refine qI (qZ X0 hZ (y := (⟨sN3, "line", "()I"⟩ : MethodName)) hown (W 176) (W 177) (W 179) (W 178) (W 180) (W 128) 0 (liW hw a1 ln O0 FL) e0 ER (by decide) rfl (hM rfl) [] (rest := []) pd19 rfl rfl rfl rfl rfl (Q 3)) ?_
 rintro T101 _ _ h101 X101 e101 ⟨rfl, N101q, hq101⟩
 replace e101 := e101.trans hq101
 have N101 := Fr.app N0 N101q
 refine yD (fun _ z_ => yE X101 (Q 4) rfl (qG X101 9 14 rfl (Q 5) rfl (teq rfl).1 (by decide) (yC X101 (Q 6) rfl rfl z_))) ?_
 refine qI (qZ X101 hZ (y := (⟨sN3, "fields", "()Ljava/util/List;"⟩ : MethodName)) hown (W 181) (W 182) (W 184) (W 183) (W 185) (W 128) 0 (flW hw a1 (.ref bl) O0 rfl FB) e101 ER (by decide) rfl (hM rfl) [] (rest := []) pd60 rfl rfl rfl rfl rfl (Q 7)) ?_
 rintro T102 _ _ h102 X102 e102 ⟨rfl, N102q, hq102⟩
 replace e102 := e102.trans hq102
 have N102 := Fr.app N101 N102q
 refine yD (fun _ z_ => XS.astore X102.here hx rfl (Q 8).2 rfl rfl rfl (qN X102 (Q 9) rfl rfl z_)) ?_
 have zo := szC X102 hx hZ hw hown O0 EM LSx e102 N102 (g := (mkF m 22 #[rv a1, iv ln, iv (ofNat rs.length), .val f0, .val f1, .val f2, iv (ofNat qn), rv bl, .unset] [(.ref bl)])) rfl (hM rfl) rfl (Q 10).2 (Wd := 0) (qE rfl rfl) (by decide) (by decide) (by decide) (by decide)
 obtain ⟨T103, L103, X103, e103, N103, st103⟩ := zo
 refine yD st103 ?_
 refine yD (fun _ z_ => yE X103 (Q 11) rfl (qG X103 28 33 rfl (Q 12) rfl (teq rfl).1 (by decide) (yE X103 (Q 13) rfl z_))) ?_
 refine qO m 34 #[rv a1, iv ln, iv (ofNat rs.length), .val f0, .val f1, .val f2, iv (ofNat qn), rv bl, .unset] [(.int (ofNat rs.length))] ?_
 suffices J57 : ∀ (Tj : State) (Lj : List Loc), Stand p l e ckWR (s.setVm s.vm) m #[(.ref a1), (.int ln), (.int (ofNat rs.length)), f0, f1, f2, (.int (ofNat qn))] below meth c Tj Lj 0 0 → Tj.heap = h0 → Fr n0 Lj → (((0 : Int32) < (ofNat rs.length)) ∨ (¬ ((0 : Int32) < (ofNat rs.length)))) → qV p e below s Z h0 (fun v h L => v = some (.int 1) ∧ Fr n0 L ∧ Keep h0 h []) ckWR.cells ckWR.slots (Tj.setTop (mkF m 57 #[rv a1, iv ln, iv (ofNat rs.length), .val f0, .val f1, .val f2, iv (ofNat qn), rv bl, .unset] [])) by
  by_cases c126 : (0 : Int32) < (ofNat rs.length)
  · refine yD (fun _ z_ => qA X103 (Q 14) rfl ((if0 _ _).trans (tlt c126).2.2.2) z_) ?_
    have hlk0 : 0 < rs.length := (qP (a := 0) (by decide) (by omega)).mp c126
    have zo := o_PS.g0 PS (by omega)
    obtain ⟨p0, hp0, SP0⟩ := zo
    refine yD (fun _ z_ => qN X103 (Q 15) rfl rfl (yH X103 (Q 16) z_)) ?_
    have zo := gtC0 X103 hx hZ hw hown O0 EM LSx FSx hlk0 e103 N103 (g := (mkF m 40 #[rv a1, iv ln, iv (ofNat rs.length), .val f0, .val f1, .val f2, iv (ofNat qn), rv bl, .unset] [(.int (0 : Int32)), (.ref bl)])) rfl (hM rfl) rfl (Q 17).2 (Wd := 0) (qE rfl rfl) (by decide) (by decide) (by decide) (by decide)
    obtain ⟨T127, L127, r127, X127, e127, N127, SR127, st127⟩ := zo
    refine yD st127 ?_
    have ES127 := SR127.1
    refine o_o1W (castY X127 hx hZ hown (W 8) e127 (Ins.self ES127) rfl rfl (Q 18).2) ?_
    intro T128 X128 e128
    refine yD (fun _ z_ => yC X128 (Q 19) rfl hf0 z_) ?_
    refine qI (o_callV X128 hx hZ (y := mN9) (z := mN9) hown (W 416) (W 417) (notFace_of_selects (args := #[]) (mvT hZ (W 419))) (W 419) (W 418) (by decide) (qY (W := 0) (seA hw r127 p0 (fs.getD 0 []) O0 CS (o_gl30 hf30) SR127 SP0) hZ (W 420) (W 10) (by decide) (by decide)) e128 ES127 (by decide) (by decide) rfl (hM rfl) (argsL := [f0]) (rest := []) (lenOf pd68 rfl) rfl (by rw [hp0]) (qE rfl rfl) (Q 20).2) ?_
    rintro T129 _ _ h129 X129 e129 ⟨rfl, N129q, hq129⟩
    replace e129 := e129.trans hq129
    have N129 := Fr.app N127 N129q
    refine qO m 52 #[rv a1, iv ln, iv (ofNat rs.length), .val f0, .val f1, .val f2, iv (ofNat qn), rv bl, .unset] [(.int (1 : Int32))] ?_
    refine yD (fun _ z_ => qF X129 52 57 rfl (Q 21) rfl ((if0 _ _).trans (feq (by decide)).2) (by decide) z_) ?_
    exact J57 _ _  X129 e129 N129 (Or.inl c126)
  · refine yD (fun _ z_ => qF X103 34 57 rfl (Q 14) rfl ((if0 _ _).trans (flt c126).2.2.2) (by decide) z_) ?_
    exact J57 _ _  X103 e103 N103 (Or.inr c126)
 intro TJ104 LJ104  XJ104 eJ104 NJ104 hJ57
 refine yD (fun _ z_ => yE XJ104 (Q 22) rfl (yH XJ104 (Q 23) z_)) ?_
 suffices J83 : ∀ (Tj : State) (Lj : List Loc), Stand p l e ckWR (s.setVm s.vm) m #[(.ref a1), (.int ln), (.int (ofNat rs.length)), f0, f1, f2, (.int (ofNat qn))] below meth c Tj Lj 0 0 → Tj.heap = h0 → Fr n0 Lj → (((1 : Int32) < (ofNat rs.length)) ∨ (¬ ((1 : Int32) < (ofNat rs.length)))) → qV p e below s Z h0 (fun v h L => v = some (.int 1) ∧ Fr n0 L ∧ Keep h0 h []) ckWR.cells ckWR.slots (Tj.setTop (mkF m 83 #[rv a1, iv ln, iv (ofNat rs.length), .val f0, .val f1, .val f2, iv (ofNat qn), rv bl, .unset] [])) by
  by_cases c122 : (1 : Int32) < (ofNat rs.length)
  · refine yD (fun _ z_ => qH XJ104 (Q 24) rfl (tlt c122).2.2.2 z_) ?_
    refine qO m 62 #[rv a1, iv ln, iv (ofNat rs.length), .val f0, .val f1, .val f2, iv (ofNat qn), rv bl, .unset] [] ?_
    have hlk1 : 1 < rs.length := (qP (a := 1) (by decide) (by omega)).mp c122
    have zo := o_PS.g1 PS (by omega)
    obtain ⟨p1, hp1, SP1⟩ := zo
    refine yD (fun _ z_ => qN XJ104 (Q 25) rfl rfl (yH XJ104 (Q 26) z_)) ?_
    have zo := gtC1 XJ104 hx hZ hw hown O0 EM LSx FSx hlk1 eJ104 NJ104 (g := (mkF m 65 #[rv a1, iv ln, iv (ofNat rs.length), .val f0, .val f1, .val f2, iv (ofNat qn), rv bl, .unset] [(.int (1 : Int32)), (.ref bl)])) rfl (hM rfl) rfl (Q 27).2 (Wd := 0) (qE rfl rfl) (by decide) (by decide) (by decide) (by decide)
    obtain ⟨T123, L123, r123, X123, e123, N123, SR123, st123⟩ := zo
    refine yD st123 ?_
    have ES123 := SR123.1
    refine o_o1W (castY X123 hx hZ hown (W 8) e123 (Ins.self ES123) rfl rfl (Q 28).2) ?_
    intro T124 X124 e124
    refine yD (fun _ z_ => qN X124 (Q 29) rfl hf1 z_) ?_
    refine qI (o_callV X124 hx hZ (y := mN9) (z := mN9) hown (W 416) (W 417) (notFace_of_selects (args := #[]) (mvT hZ (W 419))) (W 419) (W 418) (by decide) (qY (W := 0) (seA hw r123 p1 (fs.getD 1 []) O0 CS (o_gl30 hf30) SR123 SP1) hZ (W 420) (W 10) (by decide) (by decide)) e124 ES123 (by decide) (by decide) rfl (hM rfl) (argsL := [f1]) (rest := []) (lenOf pd68 rfl) rfl (by rw [hp1]) (qE rfl rfl) (Q 30).2) ?_
    rintro T125 _ _ h125 X125 e125 ⟨rfl, N125q, hq125⟩
    replace e125 := e125.trans hq125
    have N125 := Fr.app N123 N125q
    refine yD (fun _ z_ => qF X125 78 83 rfl (Q 31) rfl ((if0 _ _).trans (feq (by decide)).2) (by decide) z_) ?_
    exact J83 _ _  X125 e125 N125 (Or.inl c122)
  · refine yD (fun _ z_ => qG XJ104 59 83 rfl (Q 24) rfl (flt c122).2.2.2 (by decide) z_) ?_
    exact J83 _ _  XJ104 eJ104 NJ104 (Or.inr c122)
 intro TJ105 LJ105  XJ105 eJ105 NJ105 hJ83
 refine yD (fun _ z_ => yE XJ105 (Q 32) rfl (yH XJ105 (Q 33) z_)) ?_
 suffices J109 : ∀ (Tj : State) (Lj : List Loc), Stand p l e ckWR (s.setVm s.vm) m #[(.ref a1), (.int ln), (.int (ofNat rs.length)), f0, f1, f2, (.int (ofNat qn))] below meth c Tj Lj 0 0 → Tj.heap = h0 → Fr n0 Lj → (((2 : Int32) < (ofNat rs.length)) ∨ (¬ ((2 : Int32) < (ofNat rs.length)))) → qV p e below s Z h0 (fun v h L => v = some (.int 1) ∧ Fr n0 L ∧ Keep h0 h []) ckWR.cells ckWR.slots (Tj.setTop (mkF m 109 #[rv a1, iv ln, iv (ofNat rs.length), .val f0, .val f1, .val f2, iv (ofNat qn), rv bl, .unset] [])) by
  by_cases c118 : (2 : Int32) < (ofNat rs.length)
  · refine yD (fun _ z_ => qH XJ105 (Q 34) rfl (tlt c118).2.2.2 z_) ?_
    have hlk2 : 2 < rs.length := (qP (a := 2) (by decide) (by omega)).mp c118
    have zo := o_PS.g2 PS (by omega)
    obtain ⟨p2, hp2, SP2⟩ := zo
    refine yD (fun _ z_ => qN XJ105 (Q 35) rfl rfl (yH XJ105 (Q 36) z_)) ?_
    have zo := gtC2 XJ105 hx hZ hw hown O0 EM LSx FSx hlk2 eJ105 NJ105 (g := (mkF m 91 #[rv a1, iv ln, iv (ofNat rs.length), .val f0, .val f1, .val f2, iv (ofNat qn), rv bl, .unset] [(.int (2 : Int32)), (.ref bl)])) rfl (hM rfl) rfl (Q 37).2 (Wd := 0) (qE rfl rfl) (by decide) (by decide) (by decide) (by decide)
    obtain ⟨T119, L119, r119, X119, e119, N119, SR119, st119⟩ := zo
    refine yD st119 ?_
    have ES119 := SR119.1
    refine o_o1W (castY X119 hx hZ hown (W 8) e119 (Ins.self ES119) rfl rfl (Q 38).2) ?_
    intro T120 X120 e120
    refine yD (fun _ z_ => qN X120 (Q 39) rfl hf2 z_) ?_
    refine qI (o_callV X120 hx hZ (y := mN9) (z := mN9) hown (W 416) (W 417) (notFace_of_selects (args := #[]) (mvT hZ (W 419))) (W 419) (W 418) (by decide) (qY (W := 0) (seA hw r119 p2 (fs.getD 2 []) O0 CS (o_gl30 hf30) SR119 SP2) hZ (W 420) (W 10) (by decide) (by decide)) e120 ES119 (by decide) (by decide) rfl (hM rfl) (argsL := [f2]) (rest := []) (lenOf pd68 rfl) rfl (by rw [hp2]) (qE rfl rfl) (Q 40).2) ?_
    rintro T121 _ _ h121 X121 e121 ⟨rfl, N121q, hq121⟩
    replace e121 := e121.trans hq121
    have N121 := Fr.app N119 N121q
    refine yD (fun _ z_ => qF X121 104 109 rfl (Q 41) rfl ((if0 _ _).trans (feq (by decide)).2) (by decide) z_) ?_
    exact J109 _ _  X121 e121 N121 (Or.inl c118)
  · refine yD (fun _ z_ => qG XJ105 85 109 rfl (Q 34) rfl (flt c118).2.2.2 (by decide) z_) ?_
    exact J109 _ _  XJ105 eJ105 NJ105 (Or.inr c118)
 intro TJ106 LJ106  XJ106 eJ106 NJ106 hJ109
 refine yD (fun _ z_ => yC XJ106 (Q 42) rfl rfl z_) ?_
 refine qI (qZ XJ106 hZ (y := (⟨sN3, "fault", "()Ljava/lang/String;"⟩ : MethodName)) hown (W 198) (W 199) (W 201) (W 200) (W 202) (W 128) 0 (ftW hw a1 fv O0 hfv FF) eJ106 ER (by decide) rfl (hM rfl) [] (rest := []) pd67 rfl rfl rfl rfl rfl (Q 43)) ?_
 rintro T107 _ _ h107 X107 e107 ⟨rfl, N107q, hq107⟩
 replace e107 := e107.trans hq107
 have N107 := Fr.app NJ106 N107q
 refine yD (fun _ z_ => XS.astore X107.here hx rfl (Q 44).2 rfl hfv (l' := #[rv a1, iv ln, iv (ofNat rs.length), .val f0, .val f1, .val f2, iv (ofNat qn), rv bl, .val fv]) (by rcases ref_cases hfv with h_ | ⟨_, h_⟩ <;> rw [h_] <;> rfl) z_) ?_
 rcases FV with ⟨rfl, rfl⟩ | ⟨rfl, rfl, SV⟩ | ⟨rfl, rfl, SV⟩
 · refine qO m 115 #[rv a1, iv ln, iv (ofNat rs.length), .val f0, .val f1, .val f2, iv (0 : Int32), rv bl, .val .null] [] ?_
   refine yD (fun _ z_ => yJ X107 (Q 45) rfl (qA X107 (Q 46) rfl ((if0 _ _).trans (teq (by decide)).2) (qN X107 (Q 47) rfl rfl (XS.ifnonnullNo X107.here hx rfl (Q 48).2 rfl (yH X107 (Q 49) (yT X107 126 130 rfl (Q 50) (by decide) z_)))))) ?_
   exact o_retW X107 hx hlk e107 hZ hEL hS (by omega) CR hret (by decide) uN (Q 51).2 (by decide) (by decide) ⟨rfl, N107, (Keep.refl h0 [])⟩
 · refine qO m 115 #[rv a1, iv ln, iv (ofNat rs.length), .val f0, .val f1, .val f2, iv (1 : Int32), rv bl, rv s_] [] ?_
   refine yD (fun _ z_ => yJ X107 (Q 45) rfl (qF X107 117 131 rfl (Q 46) rfl ((if0 _ _).trans (feq (by decide)).2) (by decide) (yJ X107 (Q 52) rfl (yH X107 (Q 53) (qH X107 (Q 54) rfl (teq (by decide)).2 z_))))) ?_
   have zo := ldcCH X107 hx hZ hown (W 447) (o_wStr hw) e107 hS (by omega) hEL (by decide) CR.1 (vs := [.int (116), .int (101), .int (120), .int (116), .int (32), .int (97), .int (102), .int (116), .int (101), .int (114), .int (32), .int (99), .int (108), .int (111), .int (115), .int (105), .int (110), .int (103), .int (32), .int (113), .int (117), .int (111), .int (116), .int (101)]) (z := 24) (by decide) (by decide) (by decide) (g := (mkF m 137 #[rv a1, iv ln, iv (ofNat rs.length), .val f0, .val f1, .val f2, iv (1 : Int32), rv bl, rv s_] [])) rfl (Q 55).2 (n := 96) (by decide) (by decide) (by decide) (by decide)
   obtain ⟨a108, T108, h108, kk108, bb108, kb108, X108, e108, E108, hS108, hk108, hZ108, hown108, A108, Fc108, Fv108, V108, la108, lb108, CH108, L108, sf108, st108⟩ := zo
   replace la108 : (a108 : Nat) < Array.size h108 := la108
   have K108 : Keep h0 h108 [] := (Keep.refl _ _).ext E108
   have hS := hS108
   have hZ := hZ108
   have hown := hown108
   refine yD st108 ?_
   have zK108 := K108.1
   have CR109 := CR.trans CH108
   have S108 : qQ Z h108 a108 [(116 : Int32), (101 : Int32), (120 : Int32), (116 : Int32), (32 : Int32), (97 : Int32), (102 : Int32), (116 : Int32), (101 : Int32), (114 : Int32), (32 : Int32), (99 : Int32), (108 : Int32), (111 : Int32), (115 : Int32), (105 : Int32), (110 : Int32), (103 : Int32), (32 : Int32), (113 : Int32), (117 : Int32), (111 : Int32), (116 : Int32), (101 : Int32)] := o_litStr A108 Fc108 Fv108 V108 (by decide) (by decide) (by decide) (by decide)
   refine yD (fun _ z_ => qN X108 (Q 56) rfl rfl z_) ?_
   have f110 := (SV.keep K108 nin0 nin0)
   have O111 : Old Z n0 h108 := O0.keep K108 all0
   refine qI (qZ X108 hZ (y := mN9) hown (W 416) (W 417) (W 419) (W 418) (W 420) (W 10) 0 (seA hw a108 s_ [(116 : Int32), (101 : Int32), (120 : Int32), (116 : Int32), (32 : Int32), (97 : Int32), (102 : Int32), (116 : Int32), (101 : Int32), (114 : Int32), (32 : Int32), (99 : Int32), (108 : Int32), (111 : Int32), (115 : Int32), (105 : Int32), (110 : Int32), (103 : Int32), (32 : Int32), (113 : Int32), (117 : Int32), (111 : Int32), (116 : Int32), (101 : Int32)] O111 CS (by decide) S108 (yU.str f110)) e108 A108 (by decide) rfl (hM rfl) [(.ref s_)] (rest := []) pd68 rfl rfl rfl rfl rfl (Q 57)) ?_
   rintro T112 _ _ h112 X112 e112 ⟨rfl, N112q, hq112⟩
   replace e112 := e112.trans hq112
   have N112 := Fr.app N107 N112q
   exact o_retW X112 hx hlk e112 hZ hEL hS (by omega) CR109 hret (by decide) uN (Q 58).2 (by decide) (by decide) ⟨rfl, N112, K108⟩
 · refine qO m 115 #[rv a1, iv ln, iv (ofNat rs.length), .val f0, .val f1, .val f2, iv (2 : Int32), rv bl, rv s_] [] ?_
   refine yD (fun _ z_ => yJ X107 (Q 45) rfl (qF X107 117 131 rfl (Q 46) rfl ((if0 _ _).trans (feq (by decide)).2) (by decide) (yJ X107 (Q 52) rfl (yH X107 (Q 53) (qG X107 134 145 rfl (Q 54) rfl (feq (by decide)).2 (by decide) z_))))) ?_
   have zo := ldcCH X107 hx hZ hown (W 550) (o_wStr hw) e107 hS (by omega) hEL (by decide) CR.1 (vs := [.int (117), .int (110), .int (99), .int (108), .int (111), .int (115), .int (101), .int (100), .int (32), .int (113), .int (117), .int (111), .int (116), .int (101)]) (z := 14) (by decide) (by decide) (by decide) (g := (mkF m 145 #[rv a1, iv ln, iv (ofNat rs.length), .val f0, .val f1, .val f2, iv (2 : Int32), rv bl, rv s_] [])) rfl (Q 59).2 (n := 56) (by decide) (by decide) (by decide) (by decide)
   obtain ⟨a113, T113, h113, kk113, bb113, kb113, X113, e113, E113, hS113, hk113, hZ113, hown113, A113, Fc113, Fv113, V113, la113, lb113, CH113, L113, sf113, st113⟩ := zo
   replace la113 : (a113 : Nat) < Array.size h113 := la113
   have K113 : Keep h0 h113 [] := (Keep.refl _ _).ext E113
   have hS := hS113
   have hZ := hZ113
   have hown := hown113
   refine yD st113 ?_
   have zK113 := K113.1
   have CR114 := CR.trans CH113
   have S113 : qQ Z h113 a113 [(117 : Int32), (110 : Int32), (99 : Int32), (108 : Int32), (111 : Int32), (115 : Int32), (101 : Int32), (100 : Int32), (32 : Int32), (113 : Int32), (117 : Int32), (111 : Int32), (116 : Int32), (101 : Int32)] := o_litStr A113 Fc113 Fv113 V113 (by decide) (by decide) (by decide) (by decide)
   refine yD (fun _ z_ => qN X113 (Q 60) rfl rfl z_) ?_
   have f115 := (SV.keep K113 nin0 nin0)
   have O116 : Old Z n0 h113 := O0.keep K113 all0
   refine qI (qZ X113 hZ (y := mN9) hown (W 416) (W 417) (W 419) (W 418) (W 420) (W 10) 0 (seA hw a113 s_ [(117 : Int32), (110 : Int32), (99 : Int32), (108 : Int32), (111 : Int32), (115 : Int32), (101 : Int32), (100 : Int32), (32 : Int32), (113 : Int32), (117 : Int32), (111 : Int32), (116 : Int32), (101 : Int32)] O116 CS (by decide) S113 (yU.str f115)) e113 A113 (by decide) rfl (hM rfl) [(.ref s_)] (rest := []) pd68 rfl rfl rfl rfl rfl (Q 61)) ?_
   rintro T117 _ _ h117 X117 e117 ⟨rfl, N117q, hq117⟩
   replace e117 := e117.trans hq117
   have N117 := Fr.app N107 N117q
   exact o_retW X117 hx hlk e117 hZ hEL hS (by omega) CR114 hret (by decide) uN (Q 62).2 (by decide) (by decide) ⟨rfl, N117, K113⟩
abbrev uV (c0 o1 s1 e q1 pa pb t r1 r2 c1 c2 : Int32) : List Int32 := [c0, o1, s1, e, 10, 34, q1, pa, pb, 34, t, 10, r1, r2, 34, c1, 34, c2]
theorem o_On {c : Int32} (h : uS c) : (¬ (44 : Int32) = c ∧ ¬ (34 : Int32) = c ∧ ¬ (13 : Int32) = c ∧ ¬ (10 : Int32) = c) ∧ ¬ c = 10 := ⟨⟨Ne.symm h.2.1, Ne.symm h.2.2.1, Ne.symm h.2.2.2.1, Ne.symm h.2.2.2.2⟩, h.2.2.2.2⟩
def o_4 (c : Int32) : Prop := c = 44 ∨ c = 10 ∨ c = 13 ∨ uS c
def o_s (c : Int32) : Prop := c = 13 ∨ c = 34 ∨ uS c
theorem o_rA {c0 o1 s1 e q1 pa pb t r1 r2 c1 c2 : Int32} (ln : Nat) (ho : uS o1) : (s1 = 44 → e = 44 → uC (uV c0 o1 s1 e q1 pa pb t r1 r2 c1 c2) 3 1 ln 0 = ([[o1], [], []], 0, 5, ln + 1)) ∧ (s1 = 44 → e = 13 → uC (uV c0 o1 s1 e q1 pa pb t r1 r2 c1 c2) 3 1 ln 0 = ([[o1], []], 0, 5, ln + 1)) ∧ (s1 = 44 → uS e → uC (uV c0 o1 s1 e q1 pa pb t r1 r2 c1 c2) 3 1 ln 0 = ([[o1], [e]], 0, 5, ln + 1)) ∧ (o_s s1 → e = 44 → uC (uV c0 o1 s1 e q1 pa pb t r1 r2 c1 c2) 3 1 ln 0 = ([[o1, s1], []], 0, 5, ln + 1)) ∧ (o_s s1 → e = 13 → uC (uV c0 o1 s1 e q1 pa pb t r1 r2 c1 c2) 3 1 ln 0 = ([[o1, s1]], 0, 5, ln + 1)) ∧ (o_s s1 → uS e → uC (uV c0 o1 s1 e q1 pa pb t r1 r2 c1 c2) 3 1 ln 0 = ([[o1, s1, e]], 0, 5, ln + 1)) := by
 have o' := o_On ho
 refine ⟨?_, ?_, ?_, ?_, ?_, ?_⟩ <;> intro hs he
 all_goals first | subst he | have e' := o_On he
 all_goals first | subst hs | rcases hs with rfl | rfl | hs
 all_goals try have s' := o_On hs
 all_goals simp +decide only [uC, o_fd, o_tl, uT, o_uq, qW, o_qt, qR, qX, o_sl, List.length_cons, List.length_nil, Nat.zero_add, Nat.reduceAdd, Nat.reduceLT, Nat.reduceSub, Nat.reduceEqDiff, List.getD_eq_getElem?_getD, getElem?_pos, getElem?_neg, List.getElem_cons_succ, List.getElem_cons_zero, Option.getD_some, Option.getD_none, and_false, and_self, and_true, true_and, false_and, or_self, or_false, or_true, ↓reduceIte, not_false_eq_true, not_true_eq_false, reduceCtorEq, List.drop_succ_cons, List.drop_zero, List.drop_nil, List.take_succ_cons, List.take_zero, List.take_nil, List.cons_append, List.nil_append, Nat.sub_self, Nat.lt_irrefl, Nat.lt_add_one, Nat.zero_ne_one, Nat.add_one_sub_one, Prod.mk.injEq, exists_eq', Bool.false_eq_true, *]
theorem o_rB {c0 o1 s1 e q1 pa pb t r1 r2 c1 c2 : Int32} (ln : Nat) (hq : o_4 q1) : (pa = 34 → pb = 34 → t = 44 → uC (uV c0 o1 s1 e q1 pa pb t r1 r2 c1 c2) 3 5 ln 0 = ([[q1, 34], []], 0, 12, ln + if q1 = 10 then 2 else 1)) ∧ (pa = 34 → pb = 34 → t = 13 → uC (uV c0 o1 s1 e q1 pa pb t r1 r2 c1 c2) 3 5 ln 0 = ([[q1, 34]], 0, 12, ln + if q1 = 10 then 2 else 1)) ∧ (pa = 34 → pb = 34 → uS t → uC (uV c0 o1 s1 e q1 pa pb t r1 r2 c1 c2) 3 5 ln 0 = ([[q1, 34, t]], 1, 12, ln + if q1 = 10 then 2 else 1)) ∧ (uS pa → uS pb → t = 44 → uC (uV c0 o1 s1 e q1 pa pb t r1 r2 c1 c2) 3 5 ln 0 = ([[q1, pa, pb], []], 0, 12, ln + if q1 = 10 then 2 else 1)) ∧ (uS pa → uS pb → t = 13 → uC (uV c0 o1 s1 e q1 pa pb t r1 r2 c1 c2) 3 5 ln 0 = ([[q1, pa, pb]], 0, 12, ln + if q1 = 10 then 2 else 1)) ∧ (uS pa → uS pb → uS t → uC (uV c0 o1 s1 e q1 pa pb t r1 r2 c1 c2) 3 5 ln 0 = ([[q1, pa, pb, t]], 1, 12, ln + if q1 = 10 then 2 else 1)) := by
 refine ⟨?_, ?_, ?_, ?_, ?_, ?_⟩ <;> intro ha hb ht
 all_goals first | subst ht | have t' := o_On ht
 all_goals first | subst ha | have a' := o_On ha
 all_goals first | subst hb | have b' := o_On hb
 all_goals rcases hq with rfl | rfl | rfl | hq
 all_goals try have q' := o_On hq
 all_goals simp +decide only [uC, o_fd, o_tl, uT, o_uq, qW, o_qt, qR, qX, o_sl, List.length_cons, List.length_nil, Nat.zero_add, Nat.reduceAdd, Nat.reduceLT, Nat.reduceSub, Nat.reduceEqDiff, List.getD_eq_getElem?_getD, getElem?_pos, getElem?_neg, List.getElem_cons_succ, List.getElem_cons_zero, Option.getD_some, Option.getD_none, and_false, and_self, and_true, true_and, false_and, or_self, or_false, or_true, ↓reduceIte, not_false_eq_true, not_true_eq_false, reduceCtorEq, List.drop_succ_cons, List.drop_zero, List.drop_nil, List.take_succ_cons, List.take_zero, List.take_nil, List.cons_append, List.nil_append, Nat.sub_self, Nat.lt_irrefl, Nat.lt_add_one, Nat.zero_ne_one, Nat.add_one_sub_one, Prod.mk.injEq, exists_eq', Bool.false_eq_true, *]
theorem o_rC {c0 o1 s1 e q1 pa pb t r1 r2 c1 c2 : Int32} (ln : Nat) (hc : o_4 c1) : (c2 = 34 → True → True → ∃ l, l ≤ ln + 3 ∧ uC (uV c0 o1 s1 e q1 pa pb t r1 r2 c1 c2) 3 14 ln 0 = ([[c1, 34]], 2, 18, l)) ∧ (c2 = 44 → True → True → ∃ l, l ≤ ln + 3 ∧ uC (uV c0 o1 s1 e q1 pa pb t r1 r2 c1 c2) 3 14 ln 0 = ([[c1], []], 0, 18, l)) ∧ (c2 = 10 → True → True → ∃ l, l ≤ ln + 3 ∧ uC (uV c0 o1 s1 e q1 pa pb t r1 r2 c1 c2) 3 14 ln 0 = ([[c1]], 0, 18, l)) ∧ (c2 = 13 → True → True → ∃ l, l ≤ ln + 3 ∧ uC (uV c0 o1 s1 e q1 pa pb t r1 r2 c1 c2) 3 14 ln 0 = ([[c1, 13]], 1, 18, l)) ∧ (uS c2 → True → True → ∃ l, l ≤ ln + 3 ∧ uC (uV c0 o1 s1 e q1 pa pb t r1 r2 c1 c2) 3 14 ln 0 = ([[c1, c2]], 1, 18, l)) ∧ (c2 = 34 → uS r1 → r2 = 44 → ∃ l, l ≤ ln + 3 ∧ uC (uV c0 o1 s1 e q1 pa pb t r1 r2 c1 c2) 3 12 ln 0 = ([[r1], [c1, 34]], 2, 18, l)) ∧ (c2 = 44 → uS r1 → r2 = 44 → ∃ l, l ≤ ln + 3 ∧ uC (uV c0 o1 s1 e q1 pa pb t r1 r2 c1 c2) 3 12 ln 0 = ([[r1], [c1], []], 0, 18, l)) ∧ (c2 = 10 → uS r1 → r2 = 44 → ∃ l, l ≤ ln + 3 ∧ uC (uV c0 o1 s1 e q1 pa pb t r1 r2 c1 c2) 3 12 ln 0 = ([[r1], [c1]], 0, 18, l)) ∧ (c2 = 13 → uS r1 → r2 = 44 → ∃ l, l ≤ ln + 3 ∧ uC (uV c0 o1 s1 e q1 pa pb t r1 r2 c1 c2) 3 12 ln 0 = ([[r1], [c1, 13]], 1, 18, l)) ∧ (uS c2 → uS r1 → r2 = 44 → ∃ l, l ≤ ln + 3 ∧ uC (uV c0 o1 s1 e q1 pa pb t r1 r2 c1 c2) 3 12 ln 0 = ([[r1], [c1, c2]], 1, 18, l)) := by
 refine ⟨?_, ?_, ?_, ?_, ?_, ?_, ?_, ?_, ?_, ?_⟩ <;> intro h2 hr hs
 all_goals first | subst h2 | have d' := o_On h2
 all_goals try have r' := o_On hr
 all_goals try subst hs
 all_goals rcases hc with rfl | rfl | rfl | hc
 all_goals try have q' := o_On hc
 all_goals simp +decide only [uC, o_fd, o_tl, uT, o_uq, qW, o_qt, qR, qX, o_sl, List.length_cons, List.length_nil, Nat.zero_add, Nat.reduceAdd, Nat.reduceLT, Nat.reduceSub, Nat.reduceEqDiff, List.getD_eq_getElem?_getD, getElem?_pos, getElem?_neg, List.getElem_cons_succ, List.getElem_cons_zero, Option.getD_some, Option.getD_none, and_false, and_self, and_true, true_and, false_and, or_self, or_false, or_true, ↓reduceIte, not_false_eq_true, not_true_eq_false, reduceCtorEq, List.drop_succ_cons, List.drop_zero, List.drop_nil, List.take_succ_cons, List.take_zero, List.take_nil, List.cons_append, List.nil_append, Nat.sub_self, Nat.lt_irrefl, Nat.lt_add_one, Nat.zero_ne_one, Nat.add_one_sub_one, Prod.mk.injEq, exists_eq', exists_eq_right', Bool.false_eq_true, *]
 all_goals omega
theorem uX.ref {Z : State} {h : Heap} {fv : Value} {k s t : Nat} (S : uX Z h fv k s t) : fv.isRef = true := by
 rcases S with ⟨-, rfl⟩ | ⟨-, rfl, -⟩ | ⟨-, rfl, -⟩ <;> rfl
theorem uX.keep0 {Z : State} {h h' : Heap} {fv : Value} {k s t : Nat} (S : uX Z h fv k s t) (K : Keep h h' []) : uX Z h' fv k s t := S.keep K nin0 nin0
theorem qT.keep0 {Z : State} {h h' : Heap} {rs ts : List Nat} {fs : List (List Int32)} (S : qT Z h rs ts fs) (K : Keep h h' []) : qT Z h' rs ts fs := qT.keep K S (fun _ q => nomatch q)
theorem o_4c {c : Int32} (h : o_4 c) : qS c := by
 rcases h with rfl | rfl | rfl | h
 · exact ⟨by decide, by decide⟩
 · exact ⟨by decide, by decide⟩
 · exact ⟨by decide, by decide⟩
 · exact h.1
theorem o_sc {c : Int32} (h : o_s c) : qS c := by
 rcases h with rfl | rfl | h
 · exact ⟨by decide, by decide⟩
 · exact ⟨by decide, by decide⟩
 · exact h.1
theorem o_len16 {L : List (List Int32)} (h : L.all (fun f => decide (f.length < 16)) = true) : ∀ f ∈ L, f.length < 16 := fun f hf => of_decide_eq_true (List.all_eq_true.mp h f hf)
theorem o_l161 {a : List Int32} (h : a.length < 16) : ∀ f ∈ [a], f.length < 16 := fun f hf => by rw [List.mem_singleton.mp hf]; exact h
theorem o_l162 {a : List Int32} (h : a.length < 16) : ∀ f ∈ [a, []], f.length < 16 := fun f hf => by
 rcases List.mem_cons.mp hf with e | e
 · rw [e]; exact h
 · rw [List.mem_singleton.mp e]; decide
theorem o_l163 {a : List Int32} {c : Int32} (h : a.length < 16) : ∀ f ∈ [[c], a], f.length < 16 := fun f hf => by
 rcases List.mem_cons.mp hf with e | e
 · rw [e]; exact Nat.le_of_ble_eq_true rfl
 · exact o_l161 h f e
theorem o_l164 {a : List Int32} {c : Int32} (h : a.length < 16) : ∀ f ∈ [[c], a, []], f.length < 16 := fun f hf => by
 rcases List.mem_cons.mp hf with e | e
 · rw [e]; exact Nat.le_of_ble_eq_true rfl
 · exact o_l162 h f e
theorem o_em4 {c ex : Int32} {P : Prop} (h : (ex = 1 ∧ P) ∨ ex = 0) : (¬ c = 0 ∧ ex = 1) ∨ (¬ c = 0 ∧ ex = 0) ∨ (c = 0 ∧ ex = 1) ∨ (c = 0 ∧ ex = 0) := by
 by_cases q : c = 0
 · rcases h with ⟨h, -⟩ | h
   · exact Or.inr (Or.inr (Or.inl ⟨q, h⟩))
   · exact Or.inr (Or.inr (Or.inr ⟨q, h⟩))
 · rcases h with ⟨h, -⟩ | h
   · exact Or.inl ⟨q, h⟩
   · exact Or.inr (Or.inl ⟨q, h⟩)
theorem o_neA {c0 o1 s1 e q1 pa pb t r1 r2 c1 c2 : Int32} (h : uS o1) : ¬ qR (uV c0 o1 s1 e q1 pa pb t r1 r2 c1 c2) 1 := fun q => q.elim (fun q => (o_On h).1.2.2.2 q.2) (fun q => (o_On h).1.2.2.1 q.1.2)
theorem o_neB {c0 o1 s1 e q1 pa pb t r1 r2 c1 c2 : Int32} : ¬ qR (uV c0 o1 s1 e q1 pa pb t r1 r2 c1 c2) 5 := fun q => q.elim (fun q => absurd (show (10 : Int32) = 34 from q.2) (by decide)) (fun q => absurd (show (13 : Int32) = 34 from q.1.2) (by decide))
theorem o_neC {c0 o1 s1 e q1 pa pb t r1 r2 c1 c2 : Int32} : ¬ qR (uV c0 o1 s1 e q1 pa pb t r1 r2 c1 c2) 14 := fun q => q.elim (fun q => absurd (show (10 : Int32) = 34 from q.2) (by decide)) (fun q => absurd (show (13 : Int32) = 34 from q.1.2) (by decide))
theorem o_neD {c0 o1 s1 e q1 pa pb t r1 r2 c1 c2 : Int32} (h : uS r1) : ¬ qR (uV c0 o1 s1 e q1 pa pb t r1 r2 c1 c2) 12 := fun q => q.elim (fun q => (o_On h).1.2.2.2 q.2) (fun q => (o_On h).1.2.2.1 q.1.2)
theorem pd76 : parseMethodDescriptor "(Ljava/lang/String;)V" = some ⟨[(.object sN2)], none⟩ := by decide +kernel
theorem pd77 : parseMethodDescriptor "()Lcom/example/shelfproof/shelfproof/csv/Csv$Row;" = some ⟨[], some (.object sN3)⟩ := by decide +kernel
theorem pd78 : parseMethodDescriptor "(Lcom/example/shelfproof/shelfproof/csv/Csv$Row;IILjava/lang/String;Ljava/lang/String;Ljava/lang/String;I)Z" = some ⟨[(.object sN3), .int, .int, (.object sN2), (.object sN2), (.object sN2), .int], some .boolean⟩ := by decide +kernel
theorem pd79 : parseMethodDescriptor "(CC)Ljava/lang/String;" = some ⟨[.char, .char], some (.object sN2)⟩ := by decide +kernel
theorem pd80 : parseMethodDescriptor "(CCC)Ljava/lang/String;" = some ⟨[.char, .char, .char], some (.object sN2)⟩ := by decide +kernel
theorem pd81 : parseMethodDescriptor "(CCCC)Ljava/lang/String;" = some ⟨[.char, .char, .char, .char], some (.object sN2)⟩ := by decide +kernel
theorem ef_lawW (m : MethodId) (x0 : Int32) (x1 : Int32) (x2 : Int32) (x3 : Int32) : entryFrame m #[(.int x0), (.int x1), (.int x2), (.int x3)] maxLocals = mkF m 0 #[iv x0, iv x1, iv x2, iv x3, .unset, .unset, .unset, .unset, .unset, .unset, .unset, .unset, .unset, .unset, .unset, .unset, .unset, .unset, .unset, .unset, .unset, .unset, .unset, .unset, .unset, .unset, .unset, .unset, .unset, .unset, .unset, .unset, .unset, .unset, .unset, .unset, .unset] [] := by (first | (simp [entryFrame, mkF, argsToLocals, Value.category, maxLocals]; done) | rfl)
theorem lawW (hw : yQ a0 Z) (ws : List Jvm.Cond) (pk pa pb pc : Int32) (D mr em bE : Nat) (O0 : Old Z n0 h0) (CS : uE Z) (FM : uQ Z) (FI : o_FMI Z) (UT : uB Z) (DE : o_DE Z D) (MM : o_MM Z sN8 mr) (EM : o_EM Z em) (E0 : o_E0 Z bE) :
 o_CW l Z x code maxLocals ret ws room_1 #[(.int pk), (.int pa), (.int pb), (.int pc)] h0 (fun v h L => v = some (.int 1) ∧ Fr n0 L) := by
 refine o_bodyW (plainFor_of_name pd70) ?_
 intro p e s m below meth c T0 X0 hx hby hml hZ hown hnm hret hlk e0 hS CR
 have hM := @qK _ _ hml
 have hEL := o_hEL hw
 have W := qC hw
 have B := @o_bx p c _ hx hby
 have N0 := Fr.nil n0
 have zO := yM O0
 refine yD (fun _ z_ => castTop (ef_lawW m pk pa pb pc) (yE X0 (B at_0) rfl (yH X0 (B at_1) (XS.iand X0.here hx rfl (B at_2).2 rfl z_)))) ?_
 suffices J11 : ∀ (Tj : State) (Lj : List Loc) (j11_s0 : Int32), Stand p l e room_1 (s.setVm s.vm) m #[(.int pk), (.int pa), (.int pb), (.int pc)] below meth c Tj Lj 0 0 → Tj.heap = h0 → Fr n0 Lj → (((pk &&& (1 : Int32)) = (0 : Int32) ∧ j11_s0 = (0 : Int32)) ∨ (¬ ((pk &&& (1 : Int32)) = (0 : Int32)) ∧ j11_s0 = (1 : Int32))) → qV p e below s Z h0 (fun v h L => v = some (.int 1) ∧ Fr n0 L) room_1.cells room_1.slots (Tj.setTop (mkF m 11 #[iv pk, iv pa, iv pb, iv pc, .unset, .unset, .unset, .unset, .unset, .unset, .unset, .unset, .unset, .unset, .unset, .unset, .unset, .unset, .unset, .unset, .unset, .unset, .unset, .unset, .unset, .unset, .unset, .unset, .unset, .unset, .unset, .unset, .unset, .unset, .unset, .unset, .unset] [(.int j11_s0)])) by
  by_cases c580 : (pk &&& (1 : Int32)) = (0 : Int32)
  · refine yD (fun _ z_ => qF X0 3 10 rfl (B at_3) rfl ((if0 _ _).trans (teq c580).1) (by decide) (yH X0 (B at_10) z_)) ?_
    exact J11 _ _ _ X0 e0 N0 (Or.inl ⟨c580, rfl⟩)
  · refine yD (fun _ z_ => qA X0 (B at_3) rfl ((if0 _ _).trans (feq c580).1) (yH X0 (B at_6) (yT X0 7 11 rfl (B at_7) (by decide) z_))) ?_
    exact J11 _ _ _ X0 e0 N0 (Or.inr ⟨c580, rfl⟩)
 intro TJ101 LJ101 j11_s0 XJ101 eJ101 NJ101 hJ11
 refine yD (fun _ z_ => qM XJ101 (B at_11) rfl rfl (yE XJ101 (B at_13) rfl (yH XJ101 (B at_14) (XS.iushr XJ101.here hx rfl (B at_15).2 rfl (yH XJ101 (B at_16) (XS.iand XJ101.here hx rfl (B at_17).2 rfl z_)))))) ?_
 refine qO m 18 #[iv pk, iv pa, iv pb, iv pc, iv j11_s0, .unset, .unset, .unset, .unset, .unset, .unset, .unset, .unset, .unset, .unset, .unset, .unset, .unset, .unset, .unset, .unset, .unset, .unset, .unset, .unset, .unset, .unset, .unset, .unset, .unset, .unset, .unset, .unset, .unset, .unset, .unset, .unset] [(.int (((pk.toUInt32 >>> ((1 : Int32) &&& 31).toUInt32).toInt32) &&& (3 : Int32)))] ?_
 have zo : ∃ z, (((pk.toUInt32 >>> ((1 : Int32) &&& 31).toUInt32).toInt32) &&& (3 : Int32)) = z := ⟨_, rfl⟩
 obtain ⟨s1k, hs1k_⟩ := zo
 rw [hs1k_]
 refine yD (fun _ z_ => qM XJ101 (B at_18) rfl rfl (yE XJ101 (B at_20) rfl (yH XJ101 (B at_21) (XS.iushr XJ101.here hx rfl (B at_22).2 rfl (yH XJ101 (B at_23) (XS.iand XJ101.here hx rfl (B at_24).2 rfl z_)))))) ?_
 refine qO m 25 #[iv pk, iv pa, iv pb, iv pc, iv j11_s0, iv s1k, .unset, .unset, .unset, .unset, .unset, .unset, .unset, .unset, .unset, .unset, .unset, .unset, .unset, .unset, .unset, .unset, .unset, .unset, .unset, .unset, .unset, .unset, .unset, .unset, .unset, .unset, .unset, .unset, .unset, .unset, .unset] [(.int (((pk.toUInt32 >>> ((3 : Int32) &&& 31).toUInt32).toInt32) &&& (3 : Int32)))] ?_
 have zo : ∃ z, (((pk.toUInt32 >>> ((3 : Int32) &&& 31).toUInt32).toInt32) &&& (3 : Int32)) = z := ⟨_, rfl⟩
 obtain ⟨ek, hek_⟩ := zo
 rw [hek_]
 refine yD (fun _ z_ => qM XJ101 (B at_25) rfl rfl (yE XJ101 (B at_27) rfl (yH XJ101 (B at_28) (XS.iushr XJ101.here hx rfl (B at_29).2 rfl (yH XJ101 (B at_30) (XS.iand XJ101.here hx rfl (B at_31).2 rfl z_)))))) ?_
 refine qO m 32 #[iv pk, iv pa, iv pb, iv pc, iv j11_s0, iv s1k, iv ek, .unset, .unset, .unset, .unset, .unset, .unset, .unset, .unset, .unset, .unset, .unset, .unset, .unset, .unset, .unset, .unset, .unset, .unset, .unset, .unset, .unset, .unset, .unset, .unset, .unset, .unset, .unset, .unset, .unset, .unset] [(.int (((pk.toUInt32 >>> ((5 : Int32) &&& 31).toUInt32).toInt32) &&& (3 : Int32)))] ?_
 have zo : ∃ z, (((pk.toUInt32 >>> ((5 : Int32) &&& 31).toUInt32).toInt32) &&& (3 : Int32)) = z := ⟨_, rfl⟩
 obtain ⟨q1k, hq1k_⟩ := zo
 rw [hq1k_]
 refine yD (fun _ z_ => qM XJ101 (B at_32) rfl rfl (yE XJ101 (B at_34) rfl (yY XJ101 (B at_35) (XS.iushr XJ101.here hx rfl (B at_37).2 rfl (yH XJ101 (B at_38) (XS.iand XJ101.here hx rfl (B at_39).2 rfl z_)))))) ?_
 suffices J48 : ∀ (Tj : State) (Lj : List Loc) (j48_s0 : Int32), Stand p l e room_1 (s.setVm s.vm) m #[(.int pk), (.int pa), (.int pb), (.int pc)] below meth c Tj Lj 0 0 → Tj.heap = h0 → Fr n0 Lj → (((((pk.toUInt32 >>> ((7 : Int32) &&& 31).toUInt32).toInt32) &&& (1 : Int32)) = (0 : Int32) ∧ j48_s0 = (0 : Int32)) ∨ (¬ ((((pk.toUInt32 >>> ((7 : Int32) &&& 31).toUInt32).toInt32) &&& (1 : Int32)) = (0 : Int32)) ∧ j48_s0 = (1 : Int32))) → qV p e below s Z h0 (fun v h L => v = some (.int 1) ∧ Fr n0 L) room_1.cells room_1.slots (Tj.setTop (mkF m 48 #[iv pk, iv pa, iv pb, iv pc, iv j11_s0, iv s1k, iv ek, iv q1k, .unset, .unset, .unset, .unset, .unset, .unset, .unset, .unset, .unset, .unset, .unset, .unset, .unset, .unset, .unset, .unset, .unset, .unset, .unset, .unset, .unset, .unset, .unset, .unset, .unset, .unset, .unset, .unset, .unset] [(.int j48_s0)])) by
  by_cases c579 : (((pk.toUInt32 >>> ((7 : Int32) &&& 31).toUInt32).toInt32) &&& (1 : Int32)) = (0 : Int32)
  · refine yD (fun _ z_ => qF XJ101 40 47 rfl (B at_40) rfl ((if0 _ _).trans (teq c579).1) (by decide) (yH XJ101 (B at_47) z_)) ?_
    exact J48 _ _ _ XJ101 eJ101 NJ101 (Or.inl ⟨c579, rfl⟩)
  · refine yD (fun _ z_ => qA XJ101 (B at_40) rfl ((if0 _ _).trans (feq c579).1) (yH XJ101 (B at_43) (yT XJ101 44 48 rfl (B at_44) (by decide) z_))) ?_
    refine qO m 48 #[iv pk, iv pa, iv pb, iv pc, iv j11_s0, iv s1k, iv ek, iv q1k, .unset, .unset, .unset, .unset, .unset, .unset, .unset, .unset, .unset, .unset, .unset, .unset, .unset, .unset, .unset, .unset, .unset, .unset, .unset, .unset, .unset, .unset, .unset, .unset, .unset, .unset, .unset, .unset, .unset] [(.int (1 : Int32))] ?_
    exact J48 _ _ _ XJ101 eJ101 NJ101 (Or.inr ⟨c579, rfl⟩)
 intro TJ102 LJ102 j48_s0 XJ102 eJ102 NJ102 hJ48
 refine yD (fun _ z_ => qM XJ102 (B at_48) rfl rfl (yE XJ102 (B at_50) rfl (yY XJ102 (B at_51) (XS.iushr XJ102.here hx rfl (B at_53).2 rfl (yH XJ102 (B at_54) (XS.iand XJ102.here hx rfl (B at_55).2 rfl z_)))))) ?_
 refine qO m 56 #[iv pk, iv pa, iv pb, iv pc, iv j11_s0, iv s1k, iv ek, iv q1k, iv j48_s0, .unset, .unset, .unset, .unset, .unset, .unset, .unset, .unset, .unset, .unset, .unset, .unset, .unset, .unset, .unset, .unset, .unset, .unset, .unset, .unset, .unset, .unset, .unset, .unset, .unset, .unset, .unset, .unset] [(.int (((pk.toUInt32 >>> ((8 : Int32) &&& 31).toUInt32).toInt32) &&& (3 : Int32)))] ?_
 have zo : ∃ z, (((pk.toUInt32 >>> ((8 : Int32) &&& 31).toUInt32).toInt32) &&& (3 : Int32)) = z := ⟨_, rfl⟩
 obtain ⟨tk, htk_⟩ := zo
 rw [htk_]
 refine yD (fun _ z_ => qM XJ102 (B at_56) rfl rfl (yE XJ102 (B at_58) rfl (yY XJ102 (B at_59) (XS.iushr XJ102.here hx rfl (B at_61).2 rfl (yH XJ102 (B at_62) (XS.iand XJ102.here hx rfl (B at_63).2 rfl z_)))))) ?_
 suffices J72 : ∀ (Tj : State) (Lj : List Loc) (j72_s0 : Int32), Stand p l e room_1 (s.setVm s.vm) m #[(.int pk), (.int pa), (.int pb), (.int pc)] below meth c Tj Lj 0 0 → Tj.heap = h0 → Fr n0 Lj → (((((pk.toUInt32 >>> ((10 : Int32) &&& 31).toUInt32).toInt32) &&& (1 : Int32)) = (0 : Int32) ∧ j72_s0 = (0 : Int32)) ∨ (¬ ((((pk.toUInt32 >>> ((10 : Int32) &&& 31).toUInt32).toInt32) &&& (1 : Int32)) = (0 : Int32)) ∧ j72_s0 = (1 : Int32))) → qV p e below s Z h0 (fun v h L => v = some (.int 1) ∧ Fr n0 L) room_1.cells room_1.slots (Tj.setTop (mkF m 72 #[iv pk, iv pa, iv pb, iv pc, iv j11_s0, iv s1k, iv ek, iv q1k, iv j48_s0, iv tk, .unset, .unset, .unset, .unset, .unset, .unset, .unset, .unset, .unset, .unset, .unset, .unset, .unset, .unset, .unset, .unset, .unset, .unset, .unset, .unset, .unset, .unset, .unset, .unset, .unset, .unset, .unset] [(.int j72_s0)])) by
  by_cases c578 : (((pk.toUInt32 >>> ((10 : Int32) &&& 31).toUInt32).toInt32) &&& (1 : Int32)) = (0 : Int32)
  · refine yD (fun _ z_ => qF XJ102 64 71 rfl (B at_64) rfl ((if0 _ _).trans (teq c578).1) (by decide) (yH XJ102 (B at_71) z_)) ?_
    exact J72 _ _ _ XJ102 eJ102 NJ102 (Or.inl ⟨c578, rfl⟩)
  · refine yD (fun _ z_ => qA XJ102 (B at_64) rfl ((if0 _ _).trans (feq c578).1) (yH XJ102 (B at_67) (yT XJ102 68 72 rfl (B at_68) (by decide) z_))) ?_
    exact J72 _ _ _ XJ102 eJ102 NJ102 (Or.inr ⟨c578, rfl⟩)
 intro TJ103 LJ103 j72_s0 XJ103 eJ103 NJ103 hJ72
 refine yD (fun _ z_ => qM XJ103 (B at_72) rfl rfl (yE XJ103 (B at_74) rfl (yY XJ103 (B at_75) (XS.iushr XJ103.here hx rfl (B at_77).2 rfl (yH XJ103 (B at_78) (XS.iand XJ103.here hx rfl (B at_79).2 rfl z_)))))) ?_
 refine qO m 80 #[iv pk, iv pa, iv pb, iv pc, iv j11_s0, iv s1k, iv ek, iv q1k, iv j48_s0, iv tk, iv j72_s0, .unset, .unset, .unset, .unset, .unset, .unset, .unset, .unset, .unset, .unset, .unset, .unset, .unset, .unset, .unset, .unset, .unset, .unset, .unset, .unset, .unset, .unset, .unset, .unset, .unset, .unset] [(.int (((pk.toUInt32 >>> ((11 : Int32) &&& 31).toUInt32).toInt32) &&& (3 : Int32)))] ?_
 have zo : ∃ z, (((pk.toUInt32 >>> ((11 : Int32) &&& 31).toUInt32).toInt32) &&& (3 : Int32)) = z := ⟨_, rfl⟩
 obtain ⟨c1k, hc1k_⟩ := zo
 rw [hc1k_]
 refine yD (fun _ z_ => qM XJ103 (B at_80) rfl rfl (yE XJ103 (B at_82) rfl (yY XJ103 (B at_83) (XS.iushr XJ103.here hx rfl (B at_85).2 rfl (yY XJ103 (B at_86) (XS.iand XJ103.here hx rfl (B at_88).2 rfl z_)))))) ?_
 refine qO m 89 #[iv pk, iv pa, iv pb, iv pc, iv j11_s0, iv s1k, iv ek, iv q1k, iv j48_s0, iv tk, iv j72_s0, iv c1k, .unset, .unset, .unset, .unset, .unset, .unset, .unset, .unset, .unset, .unset, .unset, .unset, .unset, .unset, .unset, .unset, .unset, .unset, .unset, .unset, .unset, .unset, .unset, .unset, .unset] [(.int (((pk.toUInt32 >>> ((13 : Int32) &&& 31).toUInt32).toInt32) &&& (7 : Int32)))] ?_
 have zo : ∃ z, (((pk.toUInt32 >>> ((13 : Int32) &&& 31).toUInt32).toInt32) &&& (7 : Int32)) = z := ⟨_, rfl⟩
 obtain ⟨c2k, hc2k_⟩ := zo
 rw [hc2k_]
 refine yD (fun _ z_ => qM XJ103 (B at_89) rfl rfl (yE XJ103 (B at_91) rfl z_)) ?_
 refine qI (qD XJ103 hZ (y := mN7) hown (W 0) (W 1) (W 2) (W 3) 0 (orW hw pa O0) eJ103 (by decide) rfl (hM rfl) [(.int pa)] (rest := []) pd20 rfl rfl rfl rfl rfl (B at_92)) ?_
 rintro T104 _ _ h104 X104 e104 ⟨rfl, N104q, hq104⟩
 replace e104 := e104.trans hq104
 have N104 := Fr.app NJ103 N104q
 refine qO m 95 #[iv pk, iv pa, iv pb, iv pc, iv j11_s0, iv s1k, iv ek, iv q1k, iv j48_s0, iv tk, iv j72_s0, iv c1k, iv c2k, .unset, .unset, .unset, .unset, .unset, .unset, .unset, .unset, .unset, .unset, .unset, .unset, .unset, .unset, .unset, .unset, .unset, .unset, .unset, .unset, .unset, .unset, .unset, .unset] [(.int (uL pa))] ?_
 have zo : ∃ z, (uL pa) = z := ⟨_, rfl⟩
 obtain ⟨o1, ho1_⟩ := zo
 rw [ho1_]
 have co1 : uS o1 := ho1_ ▸ uZ _
 refine yD (fun _ z_ => qM X104 (B at_95) rfl rfl (yJ X104 (B at_97) rfl (yH X104 (B at_99) z_))) ?_
 suffices J137 : ∀ (Tj : State) (Lj : List Loc) (j137_s0 : Int32), Stand p l e room_1 (s.setVm s.vm) m #[(.int pk), (.int pa), (.int pb), (.int pc)] below meth c Tj Lj 0 0 → Tj.heap = h0 → Fr n0 Lj → ((s1k = (1 : Int32) ∧ j137_s0 = (44 : Int32)) ∨ (¬ (s1k = (1 : Int32)) ∧ s1k = (2 : Int32) ∧ j137_s0 = (13 : Int32)) ∨ (¬ (s1k = (1 : Int32)) ∧ ¬ (s1k = (2 : Int32)) ∧ s1k = (3 : Int32) ∧ j137_s0 = (34 : Int32)) ∨ (¬ (s1k = (1 : Int32)) ∧ ¬ (s1k = (2 : Int32)) ∧ ¬ (s1k = (3 : Int32)) ∧ j137_s0 = (uL ((pa.toUInt32 >>> ((8 : Int32) &&& 31).toUInt32).toInt32)))) → qV p e below s Z h0 (fun v h L => v = some (.int 1) ∧ Fr n0 L) room_1.cells room_1.slots (Tj.setTop (mkF m 137 #[iv pk, iv pa, iv pb, iv pc, iv j11_s0, iv s1k, iv ek, iv q1k, iv j48_s0, iv tk, iv j72_s0, iv c1k, iv c2k, iv o1, .unset, .unset, .unset, .unset, .unset, .unset, .unset, .unset, .unset, .unset, .unset, .unset, .unset, .unset, .unset, .unset, .unset, .unset, .unset, .unset, .unset, .unset, .unset] [(.int j137_s0)])) by
  by_cases c574 : s1k = (1 : Int32)
  · refine yD (fun _ z_ => qH X104 (B at_100) rfl (teq c574).2 (yY X104 (B at_103) (yT X104 105 137 rfl (B at_105) (by decide) z_))) ?_
    exact J137 _ _ _ X104 e104 N104 (Or.inl ⟨c574, rfl⟩)
  · refine yD (fun _ z_ => qG X104 100 108 rfl (B at_100) rfl (feq c574).2 (by decide) (yJ X104 (B at_108) rfl (yH X104 (B at_110) z_))) ?_
    by_cases c575 : s1k = (2 : Int32)
    · refine yD (fun _ z_ => qH X104 (B at_111) rfl (teq c575).2 (yY X104 (B at_114) (yT X104 116 137 rfl (B at_116) (by decide) z_))) ?_
      exact J137 _ _ _ X104 e104 N104 (Or.inr (Or.inl ⟨c574, c575, rfl⟩))
    · refine yD (fun _ z_ => qG X104 111 119 rfl (B at_111) rfl (feq c575).2 (by decide) (yJ X104 (B at_119) rfl (yH X104 (B at_121) z_))) ?_
      by_cases c576 : s1k = (3 : Int32)
      · refine yD (fun _ z_ => qH X104 (B at_122) rfl (teq c576).2 (yY X104 (B at_125) (yT X104 127 137 rfl (B at_127) (by decide) z_))) ?_
        exact J137 _ _ _ X104 e104 N104 (Or.inr (Or.inr (Or.inl ⟨c574, c575, c576, rfl⟩)))
      · refine yD (fun _ z_ => qG X104 122 130 rfl (B at_122) rfl (feq c576).2 (by decide) (yE X104 (B at_130) rfl (yY X104 (B at_131) (XS.iushr X104.here hx rfl (B at_133).2 rfl z_)))) ?_
        refine qI (qD X104 hZ (y := mN7) hown (W 0) (W 1) (W 2) (W 3) 0 (orW hw ((pa.toUInt32 >>> ((8 : Int32) &&& 31).toUInt32).toInt32) O0) e104 (by decide) rfl (hM rfl) [(.int ((pa.toUInt32 >>> ((8 : Int32) &&& 31).toUInt32).toInt32))] (rest := []) pd20 rfl rfl rfl rfl rfl (B at_134)) ?_
        rintro T577 _ _ h577 X577 e577 ⟨rfl, N577q, hq577⟩
        replace e577 := e577.trans hq577
        have N577 := Fr.app N104 N577q
        exact J137 _ _ _ X577 e577 N577 (Or.inr (Or.inr (Or.inr ⟨c574, c575, c576, rfl⟩)))
 intro TJ105 LJ105 j137_s0 XJ105 eJ105 NJ105 hJ137
 have hs1 : (s1k = 1 ∧ j137_s0 = 44) ∨ (¬ s1k = 1 ∧ o_s j137_s0) := by
  rcases hJ137 with ⟨r, q⟩ | ⟨r, -, q⟩ | ⟨r, -, -, q⟩ | ⟨r, -, -, q⟩
  · exact Or.inl ⟨r, q⟩
  · exact Or.inr ⟨r, Or.inl q⟩
  · exact Or.inr ⟨r, Or.inr (Or.inl q)⟩
  · exact Or.inr ⟨r, Or.inr (Or.inr (q ▸ uZ _))⟩
 refine yD (fun _ z_ => qM XJ105 (B at_137) rfl rfl (yJ XJ105 (B at_139) rfl (yH XJ105 (B at_141) z_))) ?_
 suffices J168 : ∀ (Tj : State) (Lj : List Loc) (j168_s0 : Int32), Stand p l e room_1 (s.setVm s.vm) m #[(.int pk), (.int pa), (.int pb), (.int pc)] below meth c Tj Lj 0 0 → Tj.heap = h0 → Fr n0 Lj → ((ek = (1 : Int32) ∧ j168_s0 = (44 : Int32)) ∨ (¬ (ek = (1 : Int32)) ∧ ek = (2 : Int32) ∧ j168_s0 = (13 : Int32)) ∨ (¬ (ek = (1 : Int32)) ∧ ¬ (ek = (2 : Int32)) ∧ j168_s0 = (uL ((pa.toUInt32 >>> ((16 : Int32) &&& 31).toUInt32).toInt32)))) → qV p e below s Z h0 (fun v h L => v = some (.int 1) ∧ Fr n0 L) room_1.cells room_1.slots (Tj.setTop (mkF m 168 #[iv pk, iv pa, iv pb, iv pc, iv j11_s0, iv s1k, iv ek, iv q1k, iv j48_s0, iv tk, iv j72_s0, iv c1k, iv c2k, iv o1, iv j137_s0, .unset, .unset, .unset, .unset, .unset, .unset, .unset, .unset, .unset, .unset, .unset, .unset, .unset, .unset, .unset, .unset, .unset, .unset, .unset, .unset, .unset, .unset] [(.int j168_s0)])) by
  by_cases c571 : ek = (1 : Int32)
  · refine yD (fun _ z_ => qH XJ105 (B at_142) rfl (teq c571).2 (yY XJ105 (B at_145) (yT XJ105 147 168 rfl (B at_147) (by decide) z_))) ?_
    exact J168 _ _ _ XJ105 eJ105 NJ105 (Or.inl ⟨c571, rfl⟩)
  · refine yD (fun _ z_ => qG XJ105 142 150 rfl (B at_142) rfl (feq c571).2 (by decide) (yJ XJ105 (B at_150) rfl (yH XJ105 (B at_152) z_))) ?_
    by_cases c572 : ek = (2 : Int32)
    · refine yD (fun _ z_ => qH XJ105 (B at_153) rfl (teq c572).2 (yY XJ105 (B at_156) (yT XJ105 158 168 rfl (B at_158) (by decide) z_))) ?_
      refine qO m 168 #[iv pk, iv pa, iv pb, iv pc, iv j11_s0, iv s1k, iv ek, iv q1k, iv j48_s0, iv tk, iv j72_s0, iv c1k, iv c2k, iv o1, iv j137_s0, .unset, .unset, .unset, .unset, .unset, .unset, .unset, .unset, .unset, .unset, .unset, .unset, .unset, .unset, .unset, .unset, .unset, .unset, .unset, .unset, .unset, .unset] [(.int (13 : Int32))] ?_
      exact J168 _ _ _ XJ105 eJ105 NJ105 (Or.inr (Or.inl ⟨c571, c572, rfl⟩))
    · refine yD (fun _ z_ => qG XJ105 153 161 rfl (B at_153) rfl (feq c572).2 (by decide) (yE XJ105 (B at_161) rfl (yY XJ105 (B at_162) (XS.iushr XJ105.here hx rfl (B at_164).2 rfl z_)))) ?_
      refine qI (qD XJ105 hZ (y := mN7) hown (W 0) (W 1) (W 2) (W 3) 0 (orW hw ((pa.toUInt32 >>> ((16 : Int32) &&& 31).toUInt32).toInt32) O0) eJ105 (by decide) rfl (hM rfl) [(.int ((pa.toUInt32 >>> ((16 : Int32) &&& 31).toUInt32).toInt32))] (rest := []) pd20 rfl rfl rfl rfl rfl (B at_165)) ?_
      rintro T573 _ _ h573 X573 e573 ⟨rfl, N573q, hq573⟩
      replace e573 := e573.trans hq573
      have N573 := Fr.app NJ105 N573q
      exact J168 _ _ _ X573 e573 N573 (Or.inr (Or.inr ⟨c571, c572, rfl⟩))
 intro TJ106 LJ106 j168_s0 XJ106 eJ106 NJ106 hJ168
 have hek : (ek = 1 ∧ j168_s0 = 44) ∨ (¬ ek = 1 ∧ ek = 2 ∧ j168_s0 = 13) ∨ (¬ ek = 1 ∧ ¬ ek = 2 ∧ uS j168_s0) := by
  rcases hJ168 with ⟨r, q⟩ | ⟨r, r', q⟩ | ⟨r, r', q⟩
  · exact Or.inl ⟨r, q⟩
  · exact Or.inr (Or.inl ⟨r, r', q⟩)
  · exact Or.inr (Or.inr ⟨r, r', q ▸ uZ _⟩)
 refine yD (fun _ z_ => qM XJ106 (B at_168) rfl rfl (yJ XJ106 (B at_170) rfl (yH XJ106 (B at_172) z_))) ?_
 suffices J210 : ∀ (Tj : State) (Lj : List Loc) (j210_s0 : Int32), Stand p l e room_1 (s.setVm s.vm) m #[(.int pk), (.int pa), (.int pb), (.int pc)] below meth c Tj Lj 0 0 → Tj.heap = h0 → Fr n0 Lj → ((q1k = (1 : Int32) ∧ j210_s0 = (44 : Int32)) ∨ (¬ (q1k = (1 : Int32)) ∧ q1k = (2 : Int32) ∧ j210_s0 = (10 : Int32)) ∨ (¬ (q1k = (1 : Int32)) ∧ ¬ (q1k = (2 : Int32)) ∧ q1k = (3 : Int32) ∧ j210_s0 = (13 : Int32)) ∨ (¬ (q1k = (1 : Int32)) ∧ ¬ (q1k = (2 : Int32)) ∧ ¬ (q1k = (3 : Int32)) ∧ j210_s0 = (uL ((pa.toUInt32 >>> ((24 : Int32) &&& 31).toUInt32).toInt32)))) → qV p e below s Z h0 (fun v h L => v = some (.int 1) ∧ Fr n0 L) room_1.cells room_1.slots (Tj.setTop (mkF m 210 #[iv pk, iv pa, iv pb, iv pc, iv j11_s0, iv s1k, iv ek, iv q1k, iv j48_s0, iv tk, iv j72_s0, iv c1k, iv c2k, iv o1, iv j137_s0, iv j168_s0, .unset, .unset, .unset, .unset, .unset, .unset, .unset, .unset, .unset, .unset, .unset, .unset, .unset, .unset, .unset, .unset, .unset, .unset, .unset, .unset, .unset] [(.int j210_s0)])) by
  by_cases c567 : q1k = (1 : Int32)
  · refine yD (fun _ z_ => qH XJ106 (B at_173) rfl (teq c567).2 (yY XJ106 (B at_176) (yT XJ106 178 210 rfl (B at_178) (by decide) z_))) ?_
    exact J210 _ _ _ XJ106 eJ106 NJ106 (Or.inl ⟨c567, rfl⟩)
  · refine yD (fun _ z_ => qG XJ106 173 181 rfl (B at_173) rfl (feq c567).2 (by decide) (yJ XJ106 (B at_181) rfl (yH XJ106 (B at_183) z_))) ?_
    by_cases c568 : q1k = (2 : Int32)
    · refine yD (fun _ z_ => qH XJ106 (B at_184) rfl (teq c568).2 (yY XJ106 (B at_187) (yT XJ106 189 210 rfl (B at_189) (by decide) z_))) ?_
      exact J210 _ _ _ XJ106 eJ106 NJ106 (Or.inr (Or.inl ⟨c567, c568, rfl⟩))
    · refine yD (fun _ z_ => qG XJ106 184 192 rfl (B at_184) rfl (feq c568).2 (by decide) (yJ XJ106 (B at_192) rfl (yH XJ106 (B at_194) z_))) ?_
      by_cases c569 : q1k = (3 : Int32)
      · refine yD (fun _ z_ => qH XJ106 (B at_195) rfl (teq c569).2 (yY XJ106 (B at_198) (yT XJ106 200 210 rfl (B at_200) (by decide) z_))) ?_
        exact J210 _ _ _ XJ106 eJ106 NJ106 (Or.inr (Or.inr (Or.inl ⟨c567, c568, c569, rfl⟩)))
      · refine yD (fun _ z_ => qG XJ106 195 203 rfl (B at_195) rfl (feq c569).2 (by decide) (yE XJ106 (B at_203) rfl (yY XJ106 (B at_204) (XS.iushr XJ106.here hx rfl (B at_206).2 rfl z_)))) ?_
        refine qI (qD XJ106 hZ (y := mN7) hown (W 0) (W 1) (W 2) (W 3) 0 (orW hw ((pa.toUInt32 >>> ((24 : Int32) &&& 31).toUInt32).toInt32) O0) eJ106 (by decide) rfl (hM rfl) [(.int ((pa.toUInt32 >>> ((24 : Int32) &&& 31).toUInt32).toInt32))] (rest := []) pd20 rfl rfl rfl rfl rfl (B at_207)) ?_
        rintro T570 _ _ h570 X570 e570 ⟨rfl, N570q, hq570⟩
        replace e570 := e570.trans hq570
        have N570 := Fr.app NJ106 N570q
        exact J210 _ _ _ X570 e570 N570 (Or.inr (Or.inr (Or.inr ⟨c567, c568, c569, rfl⟩)))
 intro TJ107 LJ107 j210_s0 XJ107 eJ107 NJ107 hJ210
 have hq1 : o_4 j210_s0 ∧ ((q1k = 2) ↔ j210_s0 = 10) := by
  rcases hJ210 with ⟨r, q⟩ | ⟨-, r, q⟩ | ⟨-, r, -, q⟩ | ⟨-, r, -, q⟩
  · subst r q; exact ⟨Or.inl rfl, by decide⟩
  · exact ⟨Or.inr (Or.inl q), iff_of_true r q⟩
  · exact ⟨Or.inr (Or.inr (Or.inl q)), iff_of_false r (by rw [q]; decide)⟩
  · have o : uS j210_s0 := q ▸ uZ _; exact ⟨Or.inr (Or.inr (Or.inr o)), iff_of_false r o.2.2.2.2⟩
 refine yD (fun _ z_ => qM XJ107 (B at_210) rfl rfl (yJ XJ107 (B at_212) rfl z_)) ?_
 suffices J226 : ∀ (Tj : State) (Lj : List Loc) (j226_s0 : Int32), Stand p l e room_1 (s.setVm s.vm) m #[(.int pk), (.int pa), (.int pb), (.int pc)] below meth c Tj Lj 0 0 → Tj.heap = h0 → Fr n0 Lj → ((j48_s0 = (0 : Int32) ∧ j226_s0 = (uL pb)) ∨ (¬ (j48_s0 = (0 : Int32)) ∧ j226_s0 = (34 : Int32))) → qV p e below s Z h0 (fun v h L => v = some (.int 1) ∧ Fr n0 L) room_1.cells room_1.slots (Tj.setTop (mkF m 226 #[iv pk, iv pa, iv pb, iv pc, iv j11_s0, iv s1k, iv ek, iv q1k, iv j48_s0, iv tk, iv j72_s0, iv c1k, iv c2k, iv o1, iv j137_s0, iv j168_s0, iv j210_s0, .unset, .unset, .unset, .unset, .unset, .unset, .unset, .unset, .unset, .unset, .unset, .unset, .unset, .unset, .unset, .unset, .unset, .unset, .unset, .unset] [(.int j226_s0)])) by
  by_cases c565 : j48_s0 = (0 : Int32)
  · refine yD (fun _ z_ => qF XJ107 214 222 rfl (B at_214) rfl ((if0 _ _).trans (teq c565).1) (by decide) (yE XJ107 (B at_222) rfl z_)) ?_
    refine qI (qD XJ107 hZ (y := mN7) hown (W 0) (W 1) (W 2) (W 3) 0 (orW hw pb O0) eJ107 (by decide) rfl (hM rfl) [(.int pb)] (rest := []) pd20 rfl rfl rfl rfl rfl (B at_223)) ?_
    rintro T566 _ _ h566 X566 e566 ⟨rfl, N566q, hq566⟩
    replace e566 := e566.trans hq566
    have N566 := Fr.app NJ107 N566q
    exact J226 _ _ _ X566 e566 N566 (Or.inl ⟨c565, rfl⟩)
  · refine yD (fun _ z_ => qA XJ107 (B at_214) rfl ((if0 _ _).trans (feq c565).1) (yY XJ107 (B at_217) (yT XJ107 219 226 rfl (B at_219) (by decide) z_))) ?_
    exact J226 _ _ _ XJ107 eJ107 NJ107 (Or.inr ⟨c565, rfl⟩)
 intro TJ108 LJ108 j226_s0 XJ108 eJ108 NJ108 hJ226
 refine yD (fun _ z_ => qM XJ108 (B at_226) rfl rfl (yJ XJ108 (B at_228) rfl z_)) ?_
 suffices J245 : ∀ (Tj : State) (Lj : List Loc) (j245_s0 : Int32), Stand p l e room_1 (s.setVm s.vm) m #[(.int pk), (.int pa), (.int pb), (.int pc)] below meth c Tj Lj 0 0 → Tj.heap = h0 → Fr n0 Lj → ((j48_s0 = (0 : Int32) ∧ j245_s0 = (uL ((pb.toUInt32 >>> ((8 : Int32) &&& 31).toUInt32).toInt32))) ∨ (¬ (j48_s0 = (0 : Int32)) ∧ j245_s0 = (34 : Int32))) → qV p e below s Z h0 (fun v h L => v = some (.int 1) ∧ Fr n0 L) room_1.cells room_1.slots (Tj.setTop (mkF m 245 #[iv pk, iv pa, iv pb, iv pc, iv j11_s0, iv s1k, iv ek, iv q1k, iv j48_s0, iv tk, iv j72_s0, iv c1k, iv c2k, iv o1, iv j137_s0, iv j168_s0, iv j210_s0, iv j226_s0, .unset, .unset, .unset, .unset, .unset, .unset, .unset, .unset, .unset, .unset, .unset, .unset, .unset, .unset, .unset, .unset, .unset, .unset, .unset] [(.int j245_s0)])) by
  by_cases c563 : j48_s0 = (0 : Int32)
  · refine yD (fun _ z_ => qF XJ108 230 238 rfl (B at_230) rfl ((if0 _ _).trans (teq c563).1) (by decide) (yE XJ108 (B at_238) rfl (yY XJ108 (B at_239) (XS.iushr XJ108.here hx rfl (B at_241).2 rfl z_)))) ?_
    refine qI (qD XJ108 hZ (y := mN7) hown (W 0) (W 1) (W 2) (W 3) 0 (orW hw ((pb.toUInt32 >>> ((8 : Int32) &&& 31).toUInt32).toInt32) O0) eJ108 (by decide) rfl (hM rfl) [(.int ((pb.toUInt32 >>> ((8 : Int32) &&& 31).toUInt32).toInt32))] (rest := []) pd20 rfl rfl rfl rfl rfl (B at_242)) ?_
    rintro T564 _ _ h564 X564 e564 ⟨rfl, N564q, hq564⟩
    replace e564 := e564.trans hq564
    have N564 := Fr.app NJ108 N564q
    exact J245 _ _ _ X564 e564 N564 (Or.inl ⟨c563, rfl⟩)
  · refine yD (fun _ z_ => qA XJ108 (B at_230) rfl ((if0 _ _).trans (feq c563).1) (yY XJ108 (B at_233) (yT XJ108 235 245 rfl (B at_235) (by decide) z_))) ?_
    refine qO m 245 #[iv pk, iv pa, iv pb, iv pc, iv j11_s0, iv s1k, iv ek, iv q1k, iv j48_s0, iv tk, iv j72_s0, iv c1k, iv c2k, iv o1, iv j137_s0, iv j168_s0, iv j210_s0, iv j226_s0, .unset, .unset, .unset, .unset, .unset, .unset, .unset, .unset, .unset, .unset, .unset, .unset, .unset, .unset, .unset, .unset, .unset, .unset, .unset] [(.int (34 : Int32))] ?_
    exact J245 _ _ _ XJ108 eJ108 NJ108 (Or.inr ⟨c563, rfl⟩)
 intro TJ109 LJ109 j245_s0 XJ109 eJ109 NJ109 hJ245
 have hpp : (j48_s0 = 0 ∧ uS j226_s0 ∧ uS j245_s0) ∨ (¬ j48_s0 = 0 ∧ j226_s0 = 34 ∧ j245_s0 = 34) := by
  rcases hJ226 with ⟨r, q⟩ | ⟨r, q⟩
  · rcases hJ245 with ⟨-, q'⟩ | ⟨r', -⟩
    · exact Or.inl ⟨r, q ▸ uZ _, q' ▸ uZ _⟩
    · exact absurd r r'
  · rcases hJ245 with ⟨r', -⟩ | ⟨-, q'⟩
    · exact absurd r' r
    · exact Or.inr ⟨r, q, q'⟩
 refine yD (fun _ z_ => qM XJ109 (B at_245) rfl rfl (yJ XJ109 (B at_247) rfl (yH XJ109 (B at_249) z_))) ?_
 suffices J276 : ∀ (Tj : State) (Lj : List Loc) (j276_s0 : Int32), Stand p l e room_1 (s.setVm s.vm) m #[(.int pk), (.int pa), (.int pb), (.int pc)] below meth c Tj Lj 0 0 → Tj.heap = h0 → Fr n0 Lj → ((tk = (1 : Int32) ∧ j276_s0 = (44 : Int32)) ∨ (¬ (tk = (1 : Int32)) ∧ tk = (2 : Int32) ∧ j276_s0 = (13 : Int32)) ∨ (¬ (tk = (1 : Int32)) ∧ ¬ (tk = (2 : Int32)) ∧ j276_s0 = (uL ((pb.toUInt32 >>> ((16 : Int32) &&& 31).toUInt32).toInt32)))) → qV p e below s Z h0 (fun v h L => v = some (.int 1) ∧ Fr n0 L) room_1.cells room_1.slots (Tj.setTop (mkF m 276 #[iv pk, iv pa, iv pb, iv pc, iv j11_s0, iv s1k, iv ek, iv q1k, iv j48_s0, iv tk, iv j72_s0, iv c1k, iv c2k, iv o1, iv j137_s0, iv j168_s0, iv j210_s0, iv j226_s0, iv j245_s0, .unset, .unset, .unset, .unset, .unset, .unset, .unset, .unset, .unset, .unset, .unset, .unset, .unset, .unset, .unset, .unset, .unset, .unset] [(.int j276_s0)])) by
  by_cases c560 : tk = (1 : Int32)
  · refine yD (fun _ z_ => qH XJ109 (B at_250) rfl (teq c560).2 (yY XJ109 (B at_253) (yT XJ109 255 276 rfl (B at_255) (by decide) z_))) ?_
    exact J276 _ _ _ XJ109 eJ109 NJ109 (Or.inl ⟨c560, rfl⟩)
  · refine yD (fun _ z_ => qG XJ109 250 258 rfl (B at_250) rfl (feq c560).2 (by decide) (yJ XJ109 (B at_258) rfl (yH XJ109 (B at_260) z_))) ?_
    by_cases c561 : tk = (2 : Int32)
    · refine yD (fun _ z_ => qH XJ109 (B at_261) rfl (teq c561).2 (yY XJ109 (B at_264) (yT XJ109 266 276 rfl (B at_266) (by decide) z_))) ?_
      exact J276 _ _ _ XJ109 eJ109 NJ109 (Or.inr (Or.inl ⟨c560, c561, rfl⟩))
    · refine yD (fun _ z_ => qG XJ109 261 269 rfl (B at_261) rfl (feq c561).2 (by decide) (yE XJ109 (B at_269) rfl (yY XJ109 (B at_270) (XS.iushr XJ109.here hx rfl (B at_272).2 rfl z_)))) ?_
      refine qI (qD XJ109 hZ (y := mN7) hown (W 0) (W 1) (W 2) (W 3) 0 (orW hw ((pb.toUInt32 >>> ((16 : Int32) &&& 31).toUInt32).toInt32) O0) eJ109 (by decide) rfl (hM rfl) [(.int ((pb.toUInt32 >>> ((16 : Int32) &&& 31).toUInt32).toInt32))] (rest := []) pd20 rfl rfl rfl rfl rfl (B at_273)) ?_
      rintro T562 _ _ h562 X562 e562 ⟨rfl, N562q, hq562⟩
      replace e562 := e562.trans hq562
      have N562 := Fr.app NJ109 N562q
      exact J276 _ _ _ X562 e562 N562 (Or.inr (Or.inr ⟨c560, c561, rfl⟩))
 intro TJ110 LJ110 j276_s0 XJ110 eJ110 NJ110 hJ276
 have htk : (tk = 1 ∧ j276_s0 = 44) ∨ (¬ tk = 1 ∧ tk = 2 ∧ j276_s0 = 13) ∨ (¬ tk = 1 ∧ ¬ tk = 2 ∧ uS j276_s0) := by
  rcases hJ276 with ⟨r, q⟩ | ⟨r, r', q⟩ | ⟨r, r', q⟩
  · exact Or.inl ⟨r, q⟩
  · exact Or.inr (Or.inl ⟨r, r', q⟩)
  · exact Or.inr (Or.inr ⟨r, r', q ▸ uZ _⟩)
 refine yD (fun _ z_ => qM XJ110 (B at_276) rfl rfl (yE XJ110 (B at_278) rfl (yY XJ110 (B at_279) (XS.iushr XJ110.here hx rfl (B at_281).2 rfl z_)))) ?_
 refine qI (qD XJ110 hZ (y := mN7) hown (W 0) (W 1) (W 2) (W 3) 0 (orW hw ((pb.toUInt32 >>> ((24 : Int32) &&& 31).toUInt32).toInt32) O0) eJ110 (by decide) rfl (hM rfl) [(.int ((pb.toUInt32 >>> ((24 : Int32) &&& 31).toUInt32).toInt32))] (rest := []) pd20 rfl rfl rfl rfl rfl (B at_282)) ?_
 rintro T111 _ _ h111 X111 e111 ⟨rfl, N111q, hq111⟩
 replace e111 := e111.trans hq111
 have N111 := Fr.app NJ110 N111q
 refine qO m 285 #[iv pk, iv pa, iv pb, iv pc, iv j11_s0, iv s1k, iv ek, iv q1k, iv j48_s0, iv tk, iv j72_s0, iv c1k, iv c2k, iv o1, iv j137_s0, iv j168_s0, iv j210_s0, iv j226_s0, iv j245_s0, iv j276_s0, .unset, .unset, .unset, .unset, .unset, .unset, .unset, .unset, .unset, .unset, .unset, .unset, .unset, .unset, .unset, .unset, .unset] [(.int (uL ((pb.toUInt32 >>> ((24 : Int32) &&& 31).toUInt32).toInt32)))] ?_
 have zo : ∃ z, (uL ((pb.toUInt32 >>> ((24 : Int32) &&& 31).toUInt32).toInt32)) = z := ⟨_, rfl⟩
 obtain ⟨rq, hrq_⟩ := zo
 rw [hrq_]
 have crq : uS rq := hrq_ ▸ uZ _
 refine yD (fun _ z_ => qM X111 (B at_285) rfl rfl (yJ X111 (B at_287) rfl z_)) ?_
 suffices J299 : ∀ (Tj : State) (Lj : List Loc) (j299_s0 : Int32), Stand p l e room_1 (s.setVm s.vm) m #[(.int pk), (.int pa), (.int pb), (.int pc)] below meth c Tj Lj 0 0 → Tj.heap = h0 → Fr n0 Lj → ((j72_s0 = (0 : Int32) ∧ j299_s0 = rq) ∨ (¬ (j72_s0 = (0 : Int32)) ∧ j299_s0 = (13 : Int32))) → qV p e below s Z h0 (fun v h L => v = some (.int 1) ∧ Fr n0 L) room_1.cells room_1.slots (Tj.setTop (mkF m 299 #[iv pk, iv pa, iv pb, iv pc, iv j11_s0, iv s1k, iv ek, iv q1k, iv j48_s0, iv tk, iv j72_s0, iv c1k, iv c2k, iv o1, iv j137_s0, iv j168_s0, iv j210_s0, iv j226_s0, iv j245_s0, iv j276_s0, iv rq, .unset, .unset, .unset, .unset, .unset, .unset, .unset, .unset, .unset, .unset, .unset, .unset, .unset, .unset, .unset, .unset] [(.int j299_s0)])) by
  by_cases c559 : j72_s0 = (0 : Int32)
  · refine yD (fun _ z_ => qF X111 289 297 rfl (B at_289) rfl ((if0 _ _).trans (teq c559).1) (by decide) (yJ X111 (B at_297) rfl z_)) ?_
    exact J299 _ _ _ X111 e111 N111 (Or.inl ⟨c559, rfl⟩)
  · refine yD (fun _ z_ => qA X111 (B at_289) rfl ((if0 _ _).trans (feq c559).1) (yY X111 (B at_292) (yT X111 294 299 rfl (B at_294) (by decide) z_))) ?_
    exact J299 _ _ _ X111 e111 N111 (Or.inr ⟨c559, rfl⟩)
 intro TJ112 LJ112 j299_s0 XJ112 eJ112 NJ112 hJ299
 refine yD (fun _ z_ => qM XJ112 (B at_299) rfl rfl (yJ XJ112 (B at_301) rfl z_)) ?_
 suffices J313 : ∀ (Tj : State) (Lj : List Loc) (j313_s0 : Int32), Stand p l e room_1 (s.setVm s.vm) m #[(.int pk), (.int pa), (.int pb), (.int pc)] below meth c Tj Lj 0 0 → Tj.heap = h0 → Fr n0 Lj → ((j72_s0 = (0 : Int32) ∧ j313_s0 = (44 : Int32)) ∨ (¬ (j72_s0 = (0 : Int32)) ∧ j313_s0 = (10 : Int32))) → qV p e below s Z h0 (fun v h L => v = some (.int 1) ∧ Fr n0 L) room_1.cells room_1.slots (Tj.setTop (mkF m 313 #[iv pk, iv pa, iv pb, iv pc, iv j11_s0, iv s1k, iv ek, iv q1k, iv j48_s0, iv tk, iv j72_s0, iv c1k, iv c2k, iv o1, iv j137_s0, iv j168_s0, iv j210_s0, iv j226_s0, iv j245_s0, iv j276_s0, iv rq, iv j299_s0, .unset, .unset, .unset, .unset, .unset, .unset, .unset, .unset, .unset, .unset, .unset, .unset, .unset, .unset, .unset] [(.int j313_s0)])) by
  by_cases c558 : j72_s0 = (0 : Int32)
  · refine yD (fun _ z_ => qF XJ112 303 311 rfl (B at_303) rfl ((if0 _ _).trans (teq c558).1) (by decide) (yY XJ112 (B at_311) z_)) ?_
    exact J313 _ _ _ XJ112 eJ112 NJ112 (Or.inl ⟨c558, rfl⟩)
  · refine yD (fun _ z_ => qA XJ112 (B at_303) rfl ((if0 _ _).trans (feq c558).1) (yY XJ112 (B at_306) (yT XJ112 308 313 rfl (B at_308) (by decide) z_))) ?_
    exact J313 _ _ _ XJ112 eJ112 NJ112 (Or.inr ⟨c558, rfl⟩)
 intro TJ113 LJ113 j313_s0 XJ113 eJ113 NJ113 hJ313
 have hrr : (j72_s0 = 0 ∧ j299_s0 = rq ∧ j313_s0 = 44) ∨ (¬ j72_s0 = 0 ∧ j299_s0 = 13 ∧ j313_s0 = 10) := by
  rcases hJ299 with ⟨r, q⟩ | ⟨r, q⟩
  · rcases hJ313 with ⟨-, q'⟩ | ⟨r', -⟩
    · exact Or.inl ⟨r, q, q'⟩
    · exact absurd r r'
  · rcases hJ313 with ⟨r', -⟩ | ⟨-, q'⟩
    · exact absurd r' r
    · exact Or.inr ⟨r, q, q'⟩
 refine yD (fun _ z_ => qM XJ113 (B at_313) rfl rfl (yJ XJ113 (B at_315) rfl (yH XJ113 (B at_317) z_))) ?_
 suffices J352 : ∀ (Tj : State) (Lj : List Loc) (j352_s0 : Int32), Stand p l e room_1 (s.setVm s.vm) m #[(.int pk), (.int pa), (.int pb), (.int pc)] below meth c Tj Lj 0 0 → Tj.heap = h0 → Fr n0 Lj → ((c1k = (1 : Int32) ∧ j352_s0 = (44 : Int32)) ∨ (¬ (c1k = (1 : Int32)) ∧ c1k = (2 : Int32) ∧ j352_s0 = (10 : Int32)) ∨ (¬ (c1k = (1 : Int32)) ∧ ¬ (c1k = (2 : Int32)) ∧ c1k = (3 : Int32) ∧ j352_s0 = (13 : Int32)) ∨ (¬ (c1k = (1 : Int32)) ∧ ¬ (c1k = (2 : Int32)) ∧ ¬ (c1k = (3 : Int32)) ∧ j352_s0 = (uL pc))) → qV p e below s Z h0 (fun v h L => v = some (.int 1) ∧ Fr n0 L) room_1.cells room_1.slots (Tj.setTop (mkF m 352 #[iv pk, iv pa, iv pb, iv pc, iv j11_s0, iv s1k, iv ek, iv q1k, iv j48_s0, iv tk, iv j72_s0, iv c1k, iv c2k, iv o1, iv j137_s0, iv j168_s0, iv j210_s0, iv j226_s0, iv j245_s0, iv j276_s0, iv rq, iv j299_s0, iv j313_s0, .unset, .unset, .unset, .unset, .unset, .unset, .unset, .unset, .unset, .unset, .unset, .unset, .unset, .unset] [(.int j352_s0)])) by
  by_cases c554 : c1k = (1 : Int32)
  · refine yD (fun _ z_ => qH XJ113 (B at_318) rfl (teq c554).2 (yY XJ113 (B at_321) (yT XJ113 323 352 rfl (B at_323) (by decide) z_))) ?_
    exact J352 _ _ _ XJ113 eJ113 NJ113 (Or.inl ⟨c554, rfl⟩)
  · refine yD (fun _ z_ => qG XJ113 318 326 rfl (B at_318) rfl (feq c554).2 (by decide) (yJ XJ113 (B at_326) rfl (yH XJ113 (B at_328) z_))) ?_
    by_cases c555 : c1k = (2 : Int32)
    · refine yD (fun _ z_ => qH XJ113 (B at_329) rfl (teq c555).2 (yY XJ113 (B at_332) (yT XJ113 334 352 rfl (B at_334) (by decide) z_))) ?_
      exact J352 _ _ _ XJ113 eJ113 NJ113 (Or.inr (Or.inl ⟨c554, c555, rfl⟩))
    · refine yD (fun _ z_ => qG XJ113 329 337 rfl (B at_329) rfl (feq c555).2 (by decide) (yJ XJ113 (B at_337) rfl (yH XJ113 (B at_339) z_))) ?_
      by_cases c556 : c1k = (3 : Int32)
      · refine yD (fun _ z_ => qH XJ113 (B at_340) rfl (teq c556).2 (yY XJ113 (B at_343) (yT XJ113 345 352 rfl (B at_345) (by decide) z_))) ?_
        exact J352 _ _ _ XJ113 eJ113 NJ113 (Or.inr (Or.inr (Or.inl ⟨c554, c555, c556, rfl⟩)))
      · refine yD (fun _ z_ => qG XJ113 340 348 rfl (B at_340) rfl (feq c556).2 (by decide) (yE XJ113 (B at_348) rfl z_)) ?_
        refine qO m 349 #[iv pk, iv pa, iv pb, iv pc, iv j11_s0, iv s1k, iv ek, iv q1k, iv j48_s0, iv tk, iv j72_s0, iv c1k, iv c2k, iv o1, iv j137_s0, iv j168_s0, iv j210_s0, iv j226_s0, iv j245_s0, iv j276_s0, iv rq, iv j299_s0, iv j313_s0, .unset, .unset, .unset, .unset, .unset, .unset, .unset, .unset, .unset, .unset, .unset, .unset, .unset, .unset] [(.int pc)] ?_
        refine qI (qD XJ113 hZ (y := mN7) hown (W 0) (W 1) (W 2) (W 3) 0 (orW hw pc O0) eJ113 (by decide) rfl (hM rfl) [(.int pc)] (rest := []) pd20 rfl rfl rfl rfl rfl (B at_349)) ?_
        rintro T557 _ _ h557 X557 e557 ⟨rfl, N557q, hq557⟩
        replace e557 := e557.trans hq557
        have N557 := Fr.app NJ113 N557q
        exact J352 _ _ _ X557 e557 N557 (Or.inr (Or.inr (Or.inr ⟨c554, c555, c556, rfl⟩)))
 intro TJ114 LJ114 j352_s0 XJ114 eJ114 NJ114 hJ352
 have hc1 : o_4 j352_s0 := by
  rcases hJ352 with ⟨-, q⟩ | ⟨-, -, q⟩ | ⟨-, -, -, q⟩ | ⟨-, -, -, q⟩
  · exact Or.inl q
  · exact Or.inr (Or.inl q)
  · exact Or.inr (Or.inr (Or.inl q))
  · exact Or.inr (Or.inr (Or.inr (q ▸ uZ _)))
 refine yD (fun _ z_ => qM XJ114 (B at_352) rfl rfl (yJ XJ114 (B at_354) rfl (yH XJ114 (B at_356) z_))) ?_
 suffices J405 : ∀ (Tj : State) (Lj : List Loc) (j405_s0 : Int32), Stand p l e room_1 (s.setVm s.vm) m #[(.int pk), (.int pa), (.int pb), (.int pc)] below meth c Tj Lj 0 0 → Tj.heap = h0 → Fr n0 Lj → ((c2k = (1 : Int32) ∧ j405_s0 = (44 : Int32)) ∨ (¬ (c2k = (1 : Int32)) ∧ c2k = (2 : Int32) ∧ j405_s0 = (10 : Int32)) ∨ (¬ (c2k = (1 : Int32)) ∧ ¬ (c2k = (2 : Int32)) ∧ c2k = (3 : Int32) ∧ j405_s0 = (13 : Int32)) ∨ (¬ (c2k = (1 : Int32)) ∧ ¬ (c2k = (2 : Int32)) ∧ ¬ (c2k = (3 : Int32)) ∧ c2k = (4 : Int32) ∧ j405_s0 = (34 : Int32)) ∨ (¬ (c2k = (1 : Int32)) ∧ ¬ (c2k = (2 : Int32)) ∧ ¬ (c2k = (3 : Int32)) ∧ ¬ (c2k = (4 : Int32)) ∧ j405_s0 = (uL ((pc.toUInt32 >>> ((8 : Int32) &&& 31).toUInt32).toInt32)))) → qV p e below s Z h0 (fun v h L => v = some (.int 1) ∧ Fr n0 L) room_1.cells room_1.slots (Tj.setTop (mkF m 405 #[iv pk, iv pa, iv pb, iv pc, iv j11_s0, iv s1k, iv ek, iv q1k, iv j48_s0, iv tk, iv j72_s0, iv c1k, iv c2k, iv o1, iv j137_s0, iv j168_s0, iv j210_s0, iv j226_s0, iv j245_s0, iv j276_s0, iv rq, iv j299_s0, iv j313_s0, iv j352_s0, .unset, .unset, .unset, .unset, .unset, .unset, .unset, .unset, .unset, .unset, .unset, .unset, .unset] [(.int j405_s0)])) by
  by_cases c549 : c2k = (1 : Int32)
  · refine yD (fun _ z_ => qH XJ114 (B at_357) rfl (teq c549).2 (yY XJ114 (B at_360) (yT XJ114 362 405 rfl (B at_362) (by decide) z_))) ?_
    exact J405 _ _ _ XJ114 eJ114 NJ114 (Or.inl ⟨c549, rfl⟩)
  · refine yD (fun _ z_ => qG XJ114 357 365 rfl (B at_357) rfl (feq c549).2 (by decide) (yJ XJ114 (B at_365) rfl (yH XJ114 (B at_367) z_))) ?_
    refine qO m 368 #[iv pk, iv pa, iv pb, iv pc, iv j11_s0, iv s1k, iv ek, iv q1k, iv j48_s0, iv tk, iv j72_s0, iv c1k, iv c2k, iv o1, iv j137_s0, iv j168_s0, iv j210_s0, iv j226_s0, iv j245_s0, iv j276_s0, iv rq, iv j299_s0, iv j313_s0, iv j352_s0, .unset, .unset, .unset, .unset, .unset, .unset, .unset, .unset, .unset, .unset, .unset, .unset, .unset] [(.int (2 : Int32)), (.int c2k)] ?_
    by_cases c550 : c2k = (2 : Int32)
    · refine yD (fun _ z_ => qH XJ114 (B at_368) rfl (teq c550).2 (yY XJ114 (B at_371) (yT XJ114 373 405 rfl (B at_373) (by decide) z_))) ?_
      exact J405 _ _ _ XJ114 eJ114 NJ114 (Or.inr (Or.inl ⟨c549, c550, rfl⟩))
    · refine yD (fun _ z_ => qG XJ114 368 376 rfl (B at_368) rfl (feq c550).2 (by decide) (yJ XJ114 (B at_376) rfl (yH XJ114 (B at_378) z_))) ?_
      by_cases c551 : c2k = (3 : Int32)
      · refine yD (fun _ z_ => qH XJ114 (B at_379) rfl (teq c551).2 (yY XJ114 (B at_382) (yT XJ114 384 405 rfl (B at_384) (by decide) z_))) ?_
        exact J405 _ _ _ XJ114 eJ114 NJ114 (Or.inr (Or.inr (Or.inl ⟨c549, c550, c551, rfl⟩)))
      · refine yD (fun _ z_ => qG XJ114 379 387 rfl (B at_379) rfl (feq c551).2 (by decide) (yJ XJ114 (B at_387) rfl (yH XJ114 (B at_389) z_))) ?_
        by_cases c552 : c2k = (4 : Int32)
        · refine yD (fun _ z_ => qH XJ114 (B at_390) rfl (teq c552).2 (yY XJ114 (B at_393) (yT XJ114 395 405 rfl (B at_395) (by decide) z_))) ?_
          exact J405 _ _ _ XJ114 eJ114 NJ114 (Or.inr (Or.inr (Or.inr (Or.inl ⟨c549, c550, c551, c552, rfl⟩))))
        · refine yD (fun _ z_ => qG XJ114 390 398 rfl (B at_390) rfl (feq c552).2 (by decide) (yE XJ114 (B at_398) rfl (yY XJ114 (B at_399) (XS.iushr XJ114.here hx rfl (B at_401).2 rfl z_)))) ?_
          refine qI (qD XJ114 hZ (y := mN7) hown (W 0) (W 1) (W 2) (W 3) 0 (orW hw ((pc.toUInt32 >>> ((8 : Int32) &&& 31).toUInt32).toInt32) O0) eJ114 (by decide) rfl (hM rfl) [(.int ((pc.toUInt32 >>> ((8 : Int32) &&& 31).toUInt32).toInt32))] (rest := []) pd20 rfl rfl rfl rfl rfl (B at_402)) ?_
          rintro T553 _ _ h553 X553 e553 ⟨rfl, N553q, hq553⟩
          replace e553 := e553.trans hq553
          have N553 := Fr.app NJ114 N553q
          exact J405 _ _ _ X553 e553 N553 (Or.inr (Or.inr (Or.inr (Or.inr ⟨c549, c550, c551, c552, rfl⟩))))
 intro TJ115 LJ115 j405_s0 XJ115 eJ115 NJ115 hJ405
 have hc2 : (c2k = 4 ∧ j405_s0 = 34) ∨ (¬ c2k = 4 ∧ c2k = 1 ∧ j405_s0 = 44) ∨ (¬ c2k = 4 ∧ ¬ c2k = 1 ∧ c2k = 2 ∧ j405_s0 = 10) ∨ (¬ c2k = 4 ∧ ¬ c2k = 1 ∧ ¬ c2k = 2 ∧ c2k = 3 ∧ j405_s0 = 13) ∨ (¬ c2k = 4 ∧ ¬ c2k = 1 ∧ ¬ c2k = 2 ∧ ¬ c2k = 3 ∧ uS j405_s0) := by
  rcases hJ405 with ⟨r, q⟩ | ⟨r1, r, q⟩ | ⟨r1, r2, r, q⟩ | ⟨r1, r2, r3, r, q⟩ | ⟨r1, r2, r3, r, q⟩
  · exact Or.inr (Or.inl ⟨by rw [r]; decide, r, q⟩)
  · exact Or.inr (Or.inr (Or.inl ⟨by rw [r]; decide, r1, r, q⟩))
  · exact Or.inr (Or.inr (Or.inr (Or.inl ⟨by rw [r]; decide, r1, r2, r, q⟩)))
  · exact Or.inl ⟨r, q⟩
  · exact Or.inr (Or.inr (Or.inr (Or.inr ⟨r, r1, r2, r3, q ▸ uZ _⟩)))
 refine yD (fun _ z_ => qM XJ115 (B at_405) rfl rfl (yY XJ115 (B at_407) z_)) ?_
 have zo := newP XJ115 hx hZ (aty := .char) (W 4) eJ115 (g := (mkF m 409 #[iv pk, iv pa, iv pb, iv pc, iv j11_s0, iv s1k, iv ek, iv q1k, iv j48_s0, iv tk, iv j72_s0, iv c1k, iv c2k, iv o1, iv j137_s0, iv j168_s0, iv j210_s0, iv j226_s0, iv j245_s0, iv j276_s0, iv rq, iv j299_s0, iv j313_s0, iv j352_s0, iv j405_s0, .unset, .unset, .unset, .unset, .unset, .unset, .unset, .unset, .unset, .unset, .unset, .unset] [(.int (18 : Int32))])) rfl (B at_409).2 rfl (by decide) (cap := 18) (by decide) (by decide) (by decide) (by decide)
 obtain ⟨T116, h116, k116, X116, e116, E116, A116, st116⟩ := zo
 have zo : ∃ z, z = h0.size := ⟨_, rfl⟩
 obtain ⟨b116, g116⟩ := zo
 rw [← g116] at A116 st116
 have K116 : Keep h0 h116 [] := (Keep.refl _ _).ext E116
 have l116 : b116 < h116.size := A116.lt
 refine yD st116 ?_
 have zK116 := K116.1
 have V116 : Arv Z h116 b116 k116 .char (18 : Int32) [(.int (0 : Int32)), (.int (0 : Int32)), (.int (0 : Int32)), (.int (0 : Int32)), (.int (0 : Int32)), (.int (0 : Int32)), (.int (0 : Int32)), (.int (0 : Int32)), (.int (0 : Int32)), (.int (0 : Int32)), (.int (0 : Int32)), (.int (0 : Int32)), (.int (0 : Int32)), (.int (0 : Int32)), (.int (0 : Int32)), (.int (0 : Int32)), (.int (0 : Int32)), (.int (0 : Int32))] (.int (0 : Int32)) := (Arv.new A116 (by decide)).pad (pad_rep [] (.int (0 : Int32)) 18)
 refine yD (fun _ z_ => qJ X116 (B at_411) rfl rfl (yH X116 (B at_412) (yJ X116 (B at_413) rfl z_))) ?_
 suffices J425 : ∀ (Tj : State) (Lj : List Loc) (j425_s0 : Int32), Stand p l e room_1 (s.setVm s.vm) m #[(.int pk), (.int pa), (.int pb), (.int pc)] below meth c Tj Lj 1 18 → Tj.heap = h116 → Fr n0 Lj → ((j11_s0 = (0 : Int32) ∧ j425_s0 = (10 : Int32)) ∨ (¬ (j11_s0 = (0 : Int32)) ∧ j425_s0 = (65279 : Int32))) → qV p e below s Z h0 (fun v h L => v = some (.int 1) ∧ Fr n0 L) room_1.cells room_1.slots (Tj.setTop (mkF m 425 #[iv pk, iv pa, iv pb, iv pc, iv j11_s0, iv s1k, iv ek, iv q1k, iv j48_s0, iv tk, iv j72_s0, iv c1k, iv c2k, iv o1, iv j137_s0, iv j168_s0, iv j210_s0, iv j226_s0, iv j245_s0, iv j276_s0, iv rq, iv j299_s0, iv j313_s0, iv j352_s0, iv j405_s0, .unset, .unset, .unset, .unset, .unset, .unset, .unset, .unset, .unset, .unset, .unset, .unset] [(.int j425_s0), (.int (0 : Int32)), (.ref b116), (.ref b116)])) by
  by_cases c548 : j11_s0 = (0 : Int32)
  · refine yD (fun _ z_ => qF X116 415 423 rfl (B at_415) rfl ((if0 _ _).trans (teq c548).1) (by decide) (yY X116 (B at_423) z_)) ?_
    exact J425 _ _ _ X116 e116 NJ115 (Or.inl ⟨c548, rfl⟩)
  · refine yD (fun _ z_ => qA X116 (B at_415) rfl ((if0 _ _).trans (feq c548).1) z_) ?_
    refine yD (X116.ldcInt hx hown (mvT hZ (W 524)) (g := (mkF m 418 #[iv pk, iv pa, iv pb, iv pc, iv j11_s0, iv s1k, iv ek, iv q1k, iv j48_s0, iv tk, iv j72_s0, iv c1k, iv c2k, iv o1, iv j137_s0, iv j168_s0, iv j210_s0, iv j226_s0, iv j245_s0, iv j276_s0, iv rq, iv j299_s0, iv j313_s0, iv j352_s0, iv j405_s0, .unset, .unset, .unset, .unset, .unset, .unset, .unset, .unset, .unset, .unset, .unset, .unset] [(.int (0 : Int32)), (.ref b116), (.ref b116)])) rfl (B at_418).2) ?_
    refine yD (fun _ z_ => yT X116 420 425 rfl (B at_420) (by decide) z_) ?_
    exact J425 _ _ _ X116 e116 NJ115 (Or.inr ⟨c548, rfl⟩)
 intro TJ117 LJ117 j425_s0 XJ117 eJ117 NJ117 hJ425
 have hc0 : (j11_s0 = 0 ∧ j425_s0 = 10) ∨ (¬ j11_s0 = 0 ∧ j425_s0 = 65279) := hJ425
 have k0 : qS j425_s0 := by rcases hc0 with ⟨-, q⟩ | ⟨-, q⟩ <;> rw [q] <;> exact ⟨by decide, by decide⟩
 have k2 : qS j137_s0 := by
  rcases hs1 with ⟨-, q⟩ | ⟨-, q⟩
  · rw [q]; exact ⟨by decide, by decide⟩
  · exact o_sc q
 have k3 : qS j168_s0 := by
  rcases hek with ⟨-, q⟩ | ⟨-, -, q⟩ | ⟨-, -, q⟩
  · rw [q]; exact ⟨by decide, by decide⟩
  · rw [q]; exact ⟨by decide, by decide⟩
  · exact q.1
 have k7 : qS j276_s0 := by
  rcases htk with ⟨-, q⟩ | ⟨-, -, q⟩ | ⟨-, -, q⟩
  · rw [q]; exact ⟨by decide, by decide⟩
  · rw [q]; exact ⟨by decide, by decide⟩
  · exact q.1
 have k5 : qS j226_s0 ∧ qS j245_s0 := by
  rcases hpp with ⟨-, q, q'⟩ | ⟨-, q, q'⟩
  · exact ⟨q.1, q'.1⟩
  · rw [q, q']; exact ⟨⟨by decide, by decide⟩, ⟨by decide, by decide⟩⟩
 have k8 : qS j299_s0 ∧ qS j313_s0 := by
  rcases hrr with ⟨-, q, q'⟩ | ⟨-, q, q'⟩
  · rw [q, q']; exact ⟨crq.1, ⟨by decide, by decide⟩⟩
  · rw [q, q']; exact ⟨⟨by decide, by decide⟩, ⟨by decide, by decide⟩⟩
 have k11 : qS j405_s0 := by
  rcases hc2 with ⟨-, q⟩ | ⟨-, -, q⟩ | ⟨-, -, -, q⟩ | ⟨-, -, -, -, q⟩ | ⟨-, -, -, -, q⟩
  · rw [q]; exact ⟨by decide, by decide⟩
  · rw [q]; exact ⟨by decide, by decide⟩
  · rw [q]; exact ⟨by decide, by decide⟩
  · rw [q]; exact ⟨by decide, by decide⟩
  · exact q.1
 obtain ⟨c118, Ar118, q118, S118, M118, H118, U118⟩ := V116
 refine uY (stC XJ117 hx hZ eJ117 Ar118 (j := (0 : Int32)) (inb_of S118 ⟨by decide, by decide⟩) rfl rfl (B at_425).2) ?_
 intro T118 h118 X118 e118 W118
 have V118 : Arv Z h118 b116 k116 .char (18 : Int32) [(.int j425_s0), (.int (0 : Int32)), (.int (0 : Int32)), (.int (0 : Int32)), (.int (0 : Int32)), (.int (0 : Int32)), (.int (0 : Int32)), (.int (0 : Int32)), (.int (0 : Int32)), (.int (0 : Int32)), (.int (0 : Int32)), (.int (0 : Int32)), (.int (0 : Int32)), (.int (0 : Int32)), (.int (0 : Int32)), (.int (0 : Int32)), (.int (0 : Int32)), (.int (0 : Int32))] (.int (0 : Int32)) := by
  have q := Arv.set Ar118 q118 S118 M118 H118 U118 (fits_nar_char _) W118 0 rfl (Nat.le_of_ble_eq_true rfl)
  rw [uF k0] at q
  exact q
 have K118 := Keep.of_wr W118
 have N118 := Fr.snoc X118 NJ117 (by omega : n0 ≤ b116)
 have zK118 := K118.1
 refine yD (fun _ z_ => qJ X118 (B at_426) rfl rfl (yH X118 (B at_427) (yJ X118 (B at_428) rfl z_))) ?_
 obtain ⟨c119, Ar119, q119, S119, M119, H119, U119⟩ := V118
 refine uY (stC X118 hx hZ e118 Ar119 (j := (1 : Int32)) (inb_of S119 ⟨by decide, by decide⟩) rfl rfl (B at_430).2) ?_
 intro T119 h119 X119 e119 W119
 have V119 : Arv Z h119 b116 k116 .char (18 : Int32) [(.int j425_s0), (.int o1), (.int (0 : Int32)), (.int (0 : Int32)), (.int (0 : Int32)), (.int (0 : Int32)), (.int (0 : Int32)), (.int (0 : Int32)), (.int (0 : Int32)), (.int (0 : Int32)), (.int (0 : Int32)), (.int (0 : Int32)), (.int (0 : Int32)), (.int (0 : Int32)), (.int (0 : Int32)), (.int (0 : Int32)), (.int (0 : Int32)), (.int (0 : Int32))] (.int (0 : Int32)) := by
  have q := Arv.set Ar119 q119 S119 M119 H119 U119 (fits_nar_char _) W119 1 rfl (Nat.le_of_ble_eq_true rfl)
  rw [uF co1.1] at q
  exact q
 have K119 := Keep.of_wr W119
 have N119 := Fr.snoc X119 N118 (by omega : n0 ≤ b116)
 have zK119 := K119.1
 refine yD (fun _ z_ => qJ X119 (B at_431) rfl rfl (yH X119 (B at_432) (yJ X119 (B at_433) rfl z_))) ?_
 obtain ⟨c120, Ar120, q120, S120, M120, H120, U120⟩ := V119
 refine uY (stC X119 hx hZ e119 Ar120 (j := (2 : Int32)) (inb_of S120 ⟨by decide, by decide⟩) rfl rfl (B at_435).2) ?_
 intro T120 h120 X120 e120 W120
 have V120 : Arv Z h120 b116 k116 .char (18 : Int32) [(.int j425_s0), (.int o1), (.int j137_s0), (.int (0 : Int32)), (.int (0 : Int32)), (.int (0 : Int32)), (.int (0 : Int32)), (.int (0 : Int32)), (.int (0 : Int32)), (.int (0 : Int32)), (.int (0 : Int32)), (.int (0 : Int32)), (.int (0 : Int32)), (.int (0 : Int32)), (.int (0 : Int32)), (.int (0 : Int32)), (.int (0 : Int32)), (.int (0 : Int32))] (.int (0 : Int32)) := by
  have q := Arv.set Ar120 q120 S120 M120 H120 U120 (fits_nar_char _) W120 2 rfl (Nat.le_of_ble_eq_true rfl)
  rw [uF k2] at q
  exact q
 have K120 := Keep.of_wr W120
 have N120 := Fr.snoc X120 N119 (by omega : n0 ≤ b116)
 have zK120 := K120.1
 refine qO m 436 #[iv pk, iv pa, iv pb, iv pc, iv j11_s0, iv s1k, iv ek, iv q1k, iv j48_s0, iv tk, iv j72_s0, iv c1k, iv c2k, iv o1, iv j137_s0, iv j168_s0, iv j210_s0, iv j226_s0, iv j245_s0, iv j276_s0, iv rq, iv j299_s0, iv j313_s0, iv j352_s0, iv j405_s0, .unset, .unset, .unset, .unset, .unset, .unset, .unset, .unset, .unset, .unset, .unset, .unset] [(.ref b116)] ?_
 refine yD (fun _ z_ => qJ X120 (B at_436) rfl rfl (yH X120 (B at_437) (yJ X120 (B at_438) rfl z_))) ?_
 obtain ⟨c121, Ar121, q121, S121, M121, H121, U121⟩ := V120
 refine uY (stC X120 hx hZ e120 Ar121 (j := (3 : Int32)) (inb_of S121 ⟨by decide, by decide⟩) rfl rfl (B at_440).2) ?_
 intro T121 h121 X121 e121 W121
 have V121 : Arv Z h121 b116 k116 .char (18 : Int32) [(.int j425_s0), (.int o1), (.int j137_s0), (.int j168_s0), (.int (0 : Int32)), (.int (0 : Int32)), (.int (0 : Int32)), (.int (0 : Int32)), (.int (0 : Int32)), (.int (0 : Int32)), (.int (0 : Int32)), (.int (0 : Int32)), (.int (0 : Int32)), (.int (0 : Int32)), (.int (0 : Int32)), (.int (0 : Int32)), (.int (0 : Int32)), (.int (0 : Int32))] (.int (0 : Int32)) := by
  have q := Arv.set Ar121 q121 S121 M121 H121 U121 (fits_nar_char _) W121 3 rfl (Nat.le_of_ble_eq_true rfl)
  rw [uF k3] at q
  exact q
 have K121 := Keep.of_wr W121
 have N121 := Fr.snoc X121 N120 (by omega : n0 ≤ b116)
 have zK121 := K121.1
 refine yD (fun _ z_ => qJ X121 (B at_441) rfl rfl (yH X121 (B at_442) (yY X121 (B at_443) z_))) ?_
 obtain ⟨c122, Ar122, q122, S122, M122, H122, U122⟩ := V121
 refine uY (stC X121 hx hZ e121 Ar122 (j := (4 : Int32)) (x := (10 : Int32)) (inb_of S122 ⟨by decide, by decide⟩) rfl rfl (B at_445).2) ?_
 intro T122 h122 X122 e122 W122
 have V122 : Arv Z h122 b116 k116 .char (18 : Int32) [(.int j425_s0), (.int o1), (.int j137_s0), (.int j168_s0), (.int (10 : Int32)), (.int (0 : Int32)), (.int (0 : Int32)), (.int (0 : Int32)), (.int (0 : Int32)), (.int (0 : Int32)), (.int (0 : Int32)), (.int (0 : Int32)), (.int (0 : Int32)), (.int (0 : Int32)), (.int (0 : Int32)), (.int (0 : Int32)), (.int (0 : Int32)), (.int (0 : Int32))] (.int (0 : Int32)) := by
  have q := Arv.set Ar122 q122 S122 M122 H122 U122 (fits_nar_char _) W122 4 rfl (Nat.le_of_ble_eq_true rfl)
  rw [(by decide : nar .char (10 : Int32) = (10 : Int32))] at q
  exact q
 have K122 := Keep.of_wr W122
 have N122 := Fr.snoc X122 N121 (by omega : n0 ≤ b116)
 have zK122 := K122.1
 refine yD (fun _ z_ => qJ X122 (B at_446) rfl rfl (yH X122 (B at_447) (yY X122 (B at_448) z_))) ?_
 obtain ⟨c123, Ar123, q123, S123, M123, H123, U123⟩ := V122
 refine uY (stC X122 hx hZ e122 Ar123 (j := (5 : Int32)) (x := (34 : Int32)) (inb_of S123 ⟨by decide, by decide⟩) rfl rfl (B at_450).2) ?_
 intro T123 h123 X123 e123 W123
 have V123 : Arv Z h123 b116 k116 .char (18 : Int32) [(.int j425_s0), (.int o1), (.int j137_s0), (.int j168_s0), (.int (10 : Int32)), (.int (34 : Int32)), (.int (0 : Int32)), (.int (0 : Int32)), (.int (0 : Int32)), (.int (0 : Int32)), (.int (0 : Int32)), (.int (0 : Int32)), (.int (0 : Int32)), (.int (0 : Int32)), (.int (0 : Int32)), (.int (0 : Int32)), (.int (0 : Int32)), (.int (0 : Int32))] (.int (0 : Int32)) := by
  have q := Arv.set Ar123 q123 S123 M123 H123 U123 (fits_nar_char _) W123 5 rfl (Nat.le_of_ble_eq_true rfl)
  rw [(by decide : nar .char (34 : Int32) = (34 : Int32))] at q
  exact q
 have K123 := Keep.of_wr W123
 have N123 := Fr.snoc X123 N122 (by omega : n0 ≤ b116)
 have zK123 := K123.1
 refine yD (fun _ z_ => qJ X123 (B at_451) rfl rfl (yY X123 (B at_452) (yJ X123 (B at_454) rfl z_))) ?_
 obtain ⟨c124, Ar124, q124, S124, M124, H124, U124⟩ := V123
 refine uY (stC X123 hx hZ e123 Ar124 (j := (6 : Int32)) (inb_of S124 ⟨by decide, by decide⟩) rfl rfl (B at_456).2) ?_
 intro T124 h124 X124 e124 W124
 have V124 : Arv Z h124 b116 k116 .char (18 : Int32) [(.int j425_s0), (.int o1), (.int j137_s0), (.int j168_s0), (.int (10 : Int32)), (.int (34 : Int32)), (.int j210_s0), (.int (0 : Int32)), (.int (0 : Int32)), (.int (0 : Int32)), (.int (0 : Int32)), (.int (0 : Int32)), (.int (0 : Int32)), (.int (0 : Int32)), (.int (0 : Int32)), (.int (0 : Int32)), (.int (0 : Int32)), (.int (0 : Int32))] (.int (0 : Int32)) := by
  have q := Arv.set Ar124 q124 S124 M124 H124 U124 (fits_nar_char _) W124 6 rfl (Nat.le_of_ble_eq_true rfl)
  rw [uF (o_4c hq1.1)] at q
  exact q
 have K124 := Keep.of_wr W124
 have N124 := Fr.snoc X124 N123 (by omega : n0 ≤ b116)
 have zK124 := K124.1
 refine yD (fun _ z_ => qJ X124 (B at_457) rfl rfl (yY X124 (B at_458) (yJ X124 (B at_460) rfl z_))) ?_
 obtain ⟨c125, Ar125, q125, S125, M125, H125, U125⟩ := V124
 refine uY (stC X124 hx hZ e124 Ar125 (j := (7 : Int32)) (inb_of S125 ⟨by decide, by decide⟩) rfl rfl (B at_462).2) ?_
 intro T125 h125 X125 e125 W125
 have V125 : Arv Z h125 b116 k116 .char (18 : Int32) [(.int j425_s0), (.int o1), (.int j137_s0), (.int j168_s0), (.int (10 : Int32)), (.int (34 : Int32)), (.int j210_s0), (.int j226_s0), (.int (0 : Int32)), (.int (0 : Int32)), (.int (0 : Int32)), (.int (0 : Int32)), (.int (0 : Int32)), (.int (0 : Int32)), (.int (0 : Int32)), (.int (0 : Int32)), (.int (0 : Int32)), (.int (0 : Int32))] (.int (0 : Int32)) := by
  have q := Arv.set Ar125 q125 S125 M125 H125 U125 (fits_nar_char _) W125 7 rfl (Nat.le_of_ble_eq_true rfl)
  rw [uF k5.1] at q
  exact q
 have K125 := Keep.of_wr W125
 have N125 := Fr.snoc X125 N124 (by omega : n0 ≤ b116)
 have zK125 := K125.1
 refine yD (fun _ z_ => qJ X125 (B at_463) rfl rfl (yY X125 (B at_464) (yJ X125 (B at_466) rfl z_))) ?_
 obtain ⟨c126, Ar126, q126, S126, M126, H126, U126⟩ := V125
 refine uY (stC X125 hx hZ e125 Ar126 (j := (8 : Int32)) (inb_of S126 ⟨by decide, by decide⟩) rfl rfl (B at_468).2) ?_
 intro T126 h126 X126 e126 W126
 have V126 : Arv Z h126 b116 k116 .char (18 : Int32) [(.int j425_s0), (.int o1), (.int j137_s0), (.int j168_s0), (.int (10 : Int32)), (.int (34 : Int32)), (.int j210_s0), (.int j226_s0), (.int j245_s0), (.int (0 : Int32)), (.int (0 : Int32)), (.int (0 : Int32)), (.int (0 : Int32)), (.int (0 : Int32)), (.int (0 : Int32)), (.int (0 : Int32)), (.int (0 : Int32)), (.int (0 : Int32))] (.int (0 : Int32)) := by
  have q := Arv.set Ar126 q126 S126 M126 H126 U126 (fits_nar_char _) W126 8 rfl (Nat.le_of_ble_eq_true rfl)
  rw [uF k5.2] at q
  exact q
 have K126 := Keep.of_wr W126
 have N126 := Fr.snoc X126 N125 (by omega : n0 ≤ b116)
 have zK126 := K126.1
 refine yD (fun _ z_ => qJ X126 (B at_469) rfl rfl (yY X126 (B at_470) (yY X126 (B at_472) z_))) ?_
 refine qO m 474 #[iv pk, iv pa, iv pb, iv pc, iv j11_s0, iv s1k, iv ek, iv q1k, iv j48_s0, iv tk, iv j72_s0, iv c1k, iv c2k, iv o1, iv j137_s0, iv j168_s0, iv j210_s0, iv j226_s0, iv j245_s0, iv j276_s0, iv rq, iv j299_s0, iv j313_s0, iv j352_s0, iv j405_s0, .unset, .unset, .unset, .unset, .unset, .unset, .unset, .unset, .unset, .unset, .unset, .unset] [(.int (34 : Int32)), (.int (9 : Int32)), (.ref b116), (.ref b116)] ?_
 obtain ⟨c127, Ar127, q127, S127, M127, H127, U127⟩ := V126
 refine uY (stC X126 hx hZ e126 Ar127 (j := (9 : Int32)) (x := (34 : Int32)) (inb_of S127 ⟨by decide, by decide⟩) rfl rfl (B at_474).2) ?_
 intro T127 h127 X127 e127 W127
 have V127 : Arv Z h127 b116 k116 .char (18 : Int32) [(.int j425_s0), (.int o1), (.int j137_s0), (.int j168_s0), (.int (10 : Int32)), (.int (34 : Int32)), (.int j210_s0), (.int j226_s0), (.int j245_s0), (.int (34 : Int32)), (.int (0 : Int32)), (.int (0 : Int32)), (.int (0 : Int32)), (.int (0 : Int32)), (.int (0 : Int32)), (.int (0 : Int32)), (.int (0 : Int32)), (.int (0 : Int32))] (.int (0 : Int32)) := by
  have q := Arv.set Ar127 q127 S127 M127 H127 U127 (fits_nar_char _) W127 9 rfl (Nat.le_of_ble_eq_true rfl)
  rw [(by decide : nar .char (34 : Int32) = (34 : Int32))] at q
  exact q
 have K127 := Keep.of_wr W127
 have N127 := Fr.snoc X127 N126 (by omega : n0 ≤ b116)
 have zK127 := K127.1
 refine yD (fun _ z_ => qJ X127 (B at_475) rfl rfl (yY X127 (B at_476) (yJ X127 (B at_478) rfl z_))) ?_
 obtain ⟨c128, Ar128, q128, S128, M128, H128, U128⟩ := V127
 refine uY (stC X127 hx hZ e127 Ar128 (j := (10 : Int32)) (inb_of S128 ⟨by decide, by decide⟩) rfl rfl (B at_480).2) ?_
 intro T128 h128 X128 e128 W128
 have V128 : Arv Z h128 b116 k116 .char (18 : Int32) [(.int j425_s0), (.int o1), (.int j137_s0), (.int j168_s0), (.int (10 : Int32)), (.int (34 : Int32)), (.int j210_s0), (.int j226_s0), (.int j245_s0), (.int (34 : Int32)), (.int j276_s0), (.int (0 : Int32)), (.int (0 : Int32)), (.int (0 : Int32)), (.int (0 : Int32)), (.int (0 : Int32)), (.int (0 : Int32)), (.int (0 : Int32))] (.int (0 : Int32)) := by
  have q := Arv.set Ar128 q128 S128 M128 H128 U128 (fits_nar_char _) W128 10 rfl (Nat.le_of_ble_eq_true rfl)
  rw [uF k7] at q
  exact q
 have K128 := Keep.of_wr W128
 have N128 := Fr.snoc X128 N127 (by omega : n0 ≤ b116)
 have zK128 := K128.1
 refine yD (fun _ z_ => qJ X128 (B at_481) rfl rfl (yY X128 (B at_482) (yY X128 (B at_484) z_))) ?_
 obtain ⟨c129, Ar129, q129, S129, M129, H129, U129⟩ := V128
 refine uY (stC X128 hx hZ e128 Ar129 (j := (11 : Int32)) (x := (10 : Int32)) (inb_of S129 ⟨by decide, by decide⟩) rfl rfl (B at_486).2) ?_
 intro T129 h129 X129 e129 W129
 have V129 : Arv Z h129 b116 k116 .char (18 : Int32) [(.int j425_s0), (.int o1), (.int j137_s0), (.int j168_s0), (.int (10 : Int32)), (.int (34 : Int32)), (.int j210_s0), (.int j226_s0), (.int j245_s0), (.int (34 : Int32)), (.int j276_s0), (.int (10 : Int32)), (.int (0 : Int32)), (.int (0 : Int32)), (.int (0 : Int32)), (.int (0 : Int32)), (.int (0 : Int32)), (.int (0 : Int32))] (.int (0 : Int32)) := by
  have q := Arv.set Ar129 q129 S129 M129 H129 U129 (fits_nar_char _) W129 11 rfl (Nat.le_of_ble_eq_true rfl)
  rw [(by decide : nar .char (10 : Int32) = (10 : Int32))] at q
  exact q
 have K129 := Keep.of_wr W129
 have N129 := Fr.snoc X129 N128 (by omega : n0 ≤ b116)
 have zK129 := K129.1
 refine yD (fun _ z_ => qJ X129 (B at_487) rfl rfl (yY X129 (B at_488) (yJ X129 (B at_490) rfl z_))) ?_
 obtain ⟨c130, Ar130, q130, S130, M130, H130, U130⟩ := V129
 refine uY (stC X129 hx hZ e129 Ar130 (j := (12 : Int32)) (inb_of S130 ⟨by decide, by decide⟩) rfl rfl (B at_492).2) ?_
 intro T130 h130 X130 e130 W130
 have V130 : Arv Z h130 b116 k116 .char (18 : Int32) [(.int j425_s0), (.int o1), (.int j137_s0), (.int j168_s0), (.int (10 : Int32)), (.int (34 : Int32)), (.int j210_s0), (.int j226_s0), (.int j245_s0), (.int (34 : Int32)), (.int j276_s0), (.int (10 : Int32)), (.int j299_s0), (.int (0 : Int32)), (.int (0 : Int32)), (.int (0 : Int32)), (.int (0 : Int32)), (.int (0 : Int32))] (.int (0 : Int32)) := by
  have q := Arv.set Ar130 q130 S130 M130 H130 U130 (fits_nar_char _) W130 12 rfl (Nat.le_of_ble_eq_true rfl)
  rw [uF k8.1] at q
  exact q
 have K130 := Keep.of_wr W130
 have N130 := Fr.snoc X130 N129 (by omega : n0 ≤ b116)
 have zK130 := K130.1
 refine yD (fun _ z_ => qJ X130 (B at_493) rfl rfl (yY X130 (B at_494) (yJ X130 (B at_496) rfl z_))) ?_
 obtain ⟨c131, Ar131, q131, S131, M131, H131, U131⟩ := V130
 refine uY (stC X130 hx hZ e130 Ar131 (j := (13 : Int32)) (inb_of S131 ⟨by decide, by decide⟩) rfl rfl (B at_498).2) ?_
 intro T131 h131 X131 e131 W131
 have V131 : Arv Z h131 b116 k116 .char (18 : Int32) [(.int j425_s0), (.int o1), (.int j137_s0), (.int j168_s0), (.int (10 : Int32)), (.int (34 : Int32)), (.int j210_s0), (.int j226_s0), (.int j245_s0), (.int (34 : Int32)), (.int j276_s0), (.int (10 : Int32)), (.int j299_s0), (.int j313_s0), (.int (0 : Int32)), (.int (0 : Int32)), (.int (0 : Int32)), (.int (0 : Int32))] (.int (0 : Int32)) := by
  have q := Arv.set Ar131 q131 S131 M131 H131 U131 (fits_nar_char _) W131 13 rfl (Nat.le_of_ble_eq_true rfl)
  rw [uF k8.2] at q
  exact q
 have K131 := Keep.of_wr W131
 have N131 := Fr.snoc X131 N130 (by omega : n0 ≤ b116)
 have zK131 := K131.1
 refine yD (fun _ z_ => qJ X131 (B at_499) rfl rfl (yY X131 (B at_500) (yY X131 (B at_502) z_))) ?_
 obtain ⟨c132, Ar132, q132, S132, M132, H132, U132⟩ := V131
 refine uY (stC X131 hx hZ e131 Ar132 (j := (14 : Int32)) (x := (34 : Int32)) (inb_of S132 ⟨by decide, by decide⟩) rfl rfl (B at_504).2) ?_
 intro T132 h132 X132 e132 W132
 have V132 : Arv Z h132 b116 k116 .char (18 : Int32) [(.int j425_s0), (.int o1), (.int j137_s0), (.int j168_s0), (.int (10 : Int32)), (.int (34 : Int32)), (.int j210_s0), (.int j226_s0), (.int j245_s0), (.int (34 : Int32)), (.int j276_s0), (.int (10 : Int32)), (.int j299_s0), (.int j313_s0), (.int (34 : Int32)), (.int (0 : Int32)), (.int (0 : Int32)), (.int (0 : Int32))] (.int (0 : Int32)) := by
  have q := Arv.set Ar132 q132 S132 M132 H132 U132 (fits_nar_char _) W132 14 rfl (Nat.le_of_ble_eq_true rfl)
  rw [(by decide : nar .char (34 : Int32) = (34 : Int32))] at q
  exact q
 have K132 := Keep.of_wr W132
 have N132 := Fr.snoc X132 N131 (by omega : n0 ≤ b116)
 have zK132 := K132.1
 refine yD (fun _ z_ => qJ X132 (B at_505) rfl rfl (yY X132 (B at_506) (yJ X132 (B at_508) rfl z_))) ?_
 obtain ⟨c133, Ar133, q133, S133, M133, H133, U133⟩ := V132
 refine uY (stC X132 hx hZ e132 Ar133 (j := (15 : Int32)) (inb_of S133 ⟨by decide, by decide⟩) rfl rfl (B at_510).2) ?_
 intro T133 h133 X133 e133 W133
 have V133 : Arv Z h133 b116 k116 .char (18 : Int32) [(.int j425_s0), (.int o1), (.int j137_s0), (.int j168_s0), (.int (10 : Int32)), (.int (34 : Int32)), (.int j210_s0), (.int j226_s0), (.int j245_s0), (.int (34 : Int32)), (.int j276_s0), (.int (10 : Int32)), (.int j299_s0), (.int j313_s0), (.int (34 : Int32)), (.int j352_s0), (.int (0 : Int32)), (.int (0 : Int32))] (.int (0 : Int32)) := by
  have q := Arv.set Ar133 q133 S133 M133 H133 U133 (fits_nar_char _) W133 15 rfl (Nat.le_of_ble_eq_true rfl)
  rw [uF (o_4c hc1)] at q
  exact q
 have K133 := Keep.of_wr W133
 have N133 := Fr.snoc X133 N132 (by omega : n0 ≤ b116)
 have zK133 := K133.1
 refine qO m 511 #[iv pk, iv pa, iv pb, iv pc, iv j11_s0, iv s1k, iv ek, iv q1k, iv j48_s0, iv tk, iv j72_s0, iv c1k, iv c2k, iv o1, iv j137_s0, iv j168_s0, iv j210_s0, iv j226_s0, iv j245_s0, iv j276_s0, iv rq, iv j299_s0, iv j313_s0, iv j352_s0, iv j405_s0, .unset, .unset, .unset, .unset, .unset, .unset, .unset, .unset, .unset, .unset, .unset, .unset] [(.ref b116)] ?_
 refine yD (fun _ z_ => qJ X133 (B at_511) rfl rfl (yY X133 (B at_512) (yY X133 (B at_514) z_))) ?_
 obtain ⟨c134, Ar134, q134, S134, M134, H134, U134⟩ := V133
 refine uY (stC X133 hx hZ e133 Ar134 (j := (16 : Int32)) (x := (34 : Int32)) (inb_of S134 ⟨by decide, by decide⟩) rfl rfl (B at_516).2) ?_
 intro T134 h134 X134 e134 W134
 have V134 : Arv Z h134 b116 k116 .char (18 : Int32) [(.int j425_s0), (.int o1), (.int j137_s0), (.int j168_s0), (.int (10 : Int32)), (.int (34 : Int32)), (.int j210_s0), (.int j226_s0), (.int j245_s0), (.int (34 : Int32)), (.int j276_s0), (.int (10 : Int32)), (.int j299_s0), (.int j313_s0), (.int (34 : Int32)), (.int j352_s0), (.int (34 : Int32)), (.int (0 : Int32))] (.int (0 : Int32)) := by
  have q := Arv.set Ar134 q134 S134 M134 H134 U134 (fits_nar_char _) W134 16 rfl (Nat.le_of_ble_eq_true rfl)
  rw [(by decide : nar .char (34 : Int32) = (34 : Int32))] at q
  exact q
 have K134 := Keep.of_wr W134
 have N134 := Fr.snoc X134 N133 (by omega : n0 ≤ b116)
 have zK134 := K134.1
 refine yD (fun _ z_ => qJ X134 (B at_517) rfl rfl (yY X134 (B at_518) (yJ X134 (B at_520) rfl z_))) ?_
 obtain ⟨c135, Ar135, q135, S135, M135, H135, U135⟩ := V134
 refine uY (stC X134 hx hZ e134 Ar135 (j := (17 : Int32)) (inb_of S135 ⟨by decide, by decide⟩) rfl rfl (B at_522).2) ?_
 intro T135 h135 X135 e135 W135
 have V135 : Arv Z h135 b116 k116 .char (18 : Int32) [(.int j425_s0), (.int o1), (.int j137_s0), (.int j168_s0), (.int (10 : Int32)), (.int (34 : Int32)), (.int j210_s0), (.int j226_s0), (.int j245_s0), (.int (34 : Int32)), (.int j276_s0), (.int (10 : Int32)), (.int j299_s0), (.int j313_s0), (.int (34 : Int32)), (.int j352_s0), (.int (34 : Int32)), (.int j405_s0)] (.int (0 : Int32)) := by
  have q := Arv.set Ar135 q135 S135 M135 H135 U135 (fits_nar_char _) W135 17 rfl (Nat.le_of_ble_eq_true rfl)
  rw [uF k11] at q
  exact q
 have K135 := Keep.of_wr W135
 have N135 := Fr.snoc X135 N134 (by omega : n0 ≤ b116)
 have zK135 := K135.1
 refine yD (fun _ z_ => XS.astore X135.here hx rfl (B at_523).2 rfl rfl rfl z_) ?_
 have zo := newO X135 hx hZ hown (W 5) (W 6) (W 7) e135 (g := (mkF m 525 #[iv pk, iv pa, iv pb, iv pc, iv j11_s0, iv s1k, iv ek, iv q1k, iv j48_s0, iv tk, iv j72_s0, iv c1k, iv c2k, iv o1, iv j137_s0, iv j168_s0, iv j210_s0, iv j226_s0, iv j245_s0, iv j276_s0, iv rq, iv j299_s0, iv j313_s0, iv j352_s0, iv j405_s0, rv b116, .unset, .unset, .unset, .unset, .unset, .unset, .unset, .unset, .unset, .unset, .unset] [])) rfl (B at_525).2 (by decide) (by decide)
 obtain ⟨T136, h136, X136, e136, E136, A136, D136, -, st136⟩ := zo
 have zo : ∃ z, z = h135.size := ⟨_, rfl⟩
 obtain ⟨b136, g136⟩ := zo
 rw [← g136] at A136 D136 st136
 have K136 : Keep h135 h136 [] := (Keep.refl _ _).ext E136
 have l136 : b136 < h136.size := A136.lt
 refine yD st136 ?_
 have zK136 := K136.1
 refine yD (fun _ z_ => qJ X136 (B at_528) rfl rfl z_) ?_
 have zo := newO X136 hx hZ hown (W 8) (W 9) (W 10) e136 (g := (mkF m 529 #[iv pk, iv pa, iv pb, iv pc, iv j11_s0, iv s1k, iv ek, iv q1k, iv j48_s0, iv tk, iv j72_s0, iv c1k, iv c2k, iv o1, iv j137_s0, iv j168_s0, iv j210_s0, iv j226_s0, iv j245_s0, iv j276_s0, iv rq, iv j299_s0, iv j313_s0, iv j352_s0, iv j405_s0, rv b116, .unset, .unset, .unset, .unset, .unset, .unset, .unset, .unset, .unset, .unset, .unset] [(.ref b136), (.ref b136)])) rfl (B at_529).2 (by decide) (by decide)
 obtain ⟨T137, h137, X137, e137, E137, A137, D137, -, st137⟩ := zo
 have zo : ∃ z, z = h136.size := ⟨_, rfl⟩
 obtain ⟨b137, g137⟩ := zo
 rw [← g137] at A137 D137 st137
 have K137 : Keep h136 h137 [] := (Keep.refl _ _).ext E137
 have l137 : b137 < h137.size := A137.lt
 refine yD st137 ?_
 have zK137 := K137.1
 refine yD (fun _ z_ => qJ X137 (B at_532) rfl rfl (qN X137 (B at_533) rfl rfl z_)) ?_
 have KK138 := yI (yI (yN (yN (yN (yN (yN (yN (yN (yN (yN (yN (yN (yN (yN (yN (yN (yN (yN (yN (yI (Keep.refl h0 []) K116) K118) K119) K120) K121) K122) K123) K124) K125) K126) K127) K128) K129) K130) K131) K132) K133) K134) K135) K136) K137
 have O139 : Old Z n0 h137 := O0.keep KK138 all0
 have F_value_b137 : Fld Z h137 b137 sN2 "value" "[B" .null := D137 (Or.inr (W 36)) (ty := (.array .byte)) (by decide)
 have F_coder_b137 : Fld Z h137 b137 sN2 "coder" "B" (.int (0 : Int32)) := D137 (Or.inr (W 34)) (ty := .byte) (by decide)
 have zo := o_fk (uV j425_s0 o1 j137_s0 j168_s0 j210_s0 j226_s0 j245_s0 j276_s0 j299_s0 j313_s0 j352_s0 j405_s0)
 obtain ⟨kf140, hf140, hg140, hh140⟩ := zo
 have KK141 := yI (yI (Keep.refl h135 []) K136) K137
 have f142 := (V135.keep KK141 nin0)
 refine qI (o_cI X137 hZ (y := mN19) rfl hown (W 11) (W 12) (W 13) (W 10) 3 (iuN hw b137 b116 _ _ _ (uV j425_s0 o1 j137_s0 j168_s0 j210_s0 j226_s0 j245_s0 j276_s0 j299_s0 j313_s0 j352_s0 j405_s0) kf140 O139 CS UT (Nat.le_of_ble_eq_true rfl) (uJ (P := qS) k0 (uJ (P := qS) co1.1 (uJ (P := qS) k2 (uJ (P := qS) k3 (uJ (P := qS) ⟨by decide, by decide⟩ (uJ (P := qS) ⟨by decide, by decide⟩ (uJ (P := qS) (o_4c hq1.1) (uJ (P := qS) k5.1 (uJ (P := qS) k5.2 (uJ (P := qS) ⟨by decide, by decide⟩ (uJ (P := qS) k7 (uJ (P := qS) ⟨by decide, by decide⟩ (uJ (P := qS) k8.1 (uJ (P := qS) k8.2 (uJ (P := qS) ⟨by decide, by decide⟩ (uJ (P := qS) (o_4c hc1) (uJ (P := qS) ⟨by decide, by decide⟩ (o_all1 (P := qS) k11)))))))))))))))))) hf140 hg140 hh140 A137 (by omega) F_value_b137 F_coder_b137 (Nat.le_of_ble_eq_true rfl) f142) e137 (by decide) rfl (hM rfl) (a := b137) [(.ref b116)] (rest := [(.ref b137), (.ref b136), (.ref b136)]) pd74 rfl rfl rfl rfl rfl (B at_535)) ?_
 rintro T143 _ _ h143 X143 e143 ⟨rfl, N143q, K143, tt143, zt143, St143⟩
 have zK143 := K143.1
 have N143 := Fr.app N135 N143q
 have lst143 := St143.lt
 have A143 := St143.1
 have zo : ∃ z, z = (uV j425_s0 o1 j137_s0 j168_s0 j210_s0 j226_s0 j245_s0 j276_s0 j299_s0 j313_s0 j352_s0 j405_s0) := ⟨_, rfl⟩
 obtain ⟨tx, htx⟩ := zo
 have St144 := St143
 rw [← htx] at St144
 have hln : tx.length = 18 := by rw [htx]; rfl
 have hk : tx.length ≤ 20 := by omega
 have h0t : tx.getD 0 0 = j425_s0 := by rw [htx]; rfl
 have O145 : Old Z n0 h143 := O139.keep K143 (allS (by omega) all0)
 have F_m_text_b136 : Fld Z h136 b136 sN1 "m_text" sN9 .null := D136 (Or.inr (W 44)) (ty := (.object sN2)) (by decide)
 have F_m_at_b136 : Fld Z h136 b136 sN1 "m_at" "I" (.int (0 : Int32)) := D136 (Or.inl (W 74)) (ty := .int) (by decide)
 have F_m_line_b136 : Fld Z h136 b136 sN1 "m_line" "I" (.int (0 : Int32)) := D136 (Or.inl (W 42)) (ty := .int) (by decide)
 have KK146 := yN (yI (Keep.refl h136 []) K137) K143
 have f147 := (A136.keep KK146)
 have f148 := (F_m_text_b136.keep KK146 nin0)
 have f149 := (F_m_at_b136.keep KK146 nin0)
 have f150 := (F_m_line_b136.keep KK146 nin0)
 refine qI (o_cI X143 hZ (y := (⟨sN1, "<init>", "(Ljava/lang/String;)V"⟩ : MethodName)) rfl hown (W 37) (W 38) (W 39) (W 7) 1 (ciW hw b136 b137 tx _ _ _ O145 CS FM UT hk (by omega) (by omega) (by omega) f147 f148 f149 f150 (yU.str St144) (fun _ K => (St144.keep K (yB (by omega) nin0) (yB (by omega) nin0)).str)) e143 (by decide) rfl (hM rfl) (a := b136) [(.ref b137)] (rest := [(.ref b136)]) pd76 rfl rfl rfl rfl rfl (B at_538)) ?_
 rintro T151 _ _ h151 X151 e151 ⟨rfl, N151q, K151, E151, Fa151, Fb151, Fc151⟩
 have zK151 := K151.1
 have N151 := Fr.app N143 N151q
 refine yD (fun _ z_ => XS.astore X151.here hx rfl (B at_541).2 rfl rfl rfl (yH X151 (B at_543) (qM X151 (B at_544) rfl rfl z_))) ?_
 suffices G152 : ∀ (Tj : State) (Lj : List Loc) (hR152 : Heap) (vmR152 : Vm) (kR152 : Nat) (ln : Nat), (Keep h151 hR152 [b136]) → (Exa Z hR152 b136 sN1) → (Fld Z hR152 b136 sN1 "m_text" sN9 (.ref b137)) → (Fld Z hR152 b136 sN1 "m_at" "I" (.int (ofNat 1))) → (Fld Z hR152 b136 sN1 "m_line" "I" (.int (ofNat ln))) → (ln ≤ 2) → (s.Since vmR152 kR152) → (kR152 ≤ Array.size hR152) → (Z.Warmed39 (s.setVm vmR152).vm) → ((s.setVm vmR152).vm.findClass sN10 = some m.cls) → (CHr Z uO s.vm h0 vmR152 hR152) → Stand p l e room_1 (s.setVm vmR152) m #[(.int pk), (.int pa), (.int pb), (.int pc)] below meth c Tj Lj 12 206 → Tj.heap = hR152 → Fr n0 Lj → qV p e below s Z h0 (fun v h L => v = some (.int 1) ∧ Fr n0 L) room_1.cells room_1.slots (Tj.setTop (mkF m 573 #[iv pk, iv pa, iv pb, iv pc, iv j11_s0, iv s1k, iv ek, iv q1k, iv j48_s0, iv tk, iv j72_s0, iv c1k, iv c2k, iv o1, iv j137_s0, iv j168_s0, iv j210_s0, iv j226_s0, iv j245_s0, iv j276_s0, iv rq, iv j299_s0, iv j313_s0, iv j352_s0, iv j405_s0, rv b116, rv b136, iv (ofNat ln), .unset, .unset, .unset, .unset, .unset, .unset, .unset, .unset, .unset] [])) by
  refine yD (fun _ z_ => yJ X151 (B at_546) rfl z_) ?_
  refine qO m 548 #[iv pk, iv pa, iv pb, iv pc, iv j11_s0, iv s1k, iv ek, iv q1k, iv j48_s0, iv tk, iv j72_s0, iv c1k, iv c2k, iv o1, iv j137_s0, iv j168_s0, iv j210_s0, iv j226_s0, iv j245_s0, iv j276_s0, iv rq, iv j299_s0, iv j313_s0, iv j352_s0, iv j405_s0, rv b116, rv b136, iv (1 : Int32), .unset, .unset, .unset, .unset, .unset, .unset, .unset, .unset, .unset] [(.int j11_s0)] ?_
  by_cases c531 : j11_s0 = (0 : Int32)
  · refine yD (fun _ z_ => qA X151 (B at_548) rfl ((if0 _ _).trans (teq c531).2) z_) ?_
    have hz0 : j425_s0 = 10 := by
     rcases hc0 with ⟨-, q⟩ | ⟨r, -⟩
     · exact q
     · exact absurd c531 r
    have hat0 : (if (65279 : Int32) = tx.getD 0 0 then 1 else 0) = 0 := by rw [h0t, hz0]; rfl
    have F532 := Fb151
    rw [hat0] at F532
    have hel0 : qR tx 0 := Or.inl ⟨by omega, by rw [h0t, hz0]⟩
    refine yD (fun _ z_ => qN X151 (B at_551) rfl rfl z_) ?_
    have O533 : Old Z n0 h151 := O145.keep K151 (allS (by omega) all0)
    have f534 := (St144.keep K151 (yB (by omega) nin0) (yB (by omega) nin0))
    refine qI (qZ X151 hZ (y := mN1) hown (W 75) (W 76) (W 78) (W 77) (W 79) (W 7) 0 (nxE hw b136 b137 tt143 D mr em bE tx 0 1 O533 CS FM FI UT DE MM EM E0 hk (by omega) (by omega) (by omega) (by omega) E151 Fa151 F532 Fc151 f534 (by omega) hel0) e151 E151 (by decide) rfl (hM rfl) [] (rest := []) pd77 rfl rfl rfl rfl rfl (B at_553)) ?_
    rintro T535 _ _ h535 X535 e535 ⟨N535q, K535, E535, Fa535, Fb535, Fc535, x535, rfl, RO535⟩
    have zK535 := K535.1
    have N535 := Fr.app N151 N535q
    refine yD (fun _ z_ => yH X535 (B at_556) (yH X535 (B at_557) (XS.aconstNull X535.here hx rfl (B at_558).2 (XS.aconstNull X535.here hx rfl (B at_559).2 (XS.aconstNull X535.here hx rfl (B at_560).2 (yH X535 (B at_561) z_)))))) ?_
    have O536 : Old Z n0 h535 := O533.keep K535 (allS (by omega) all0)
    have KK538 := yN (yN (yN (yI (yI (yN (yN (yN (yN (yN (yN (yN (yN (yN (yN (yN (yN (yN (yN (yN (yN (yN (yN (yI (Keep.refl h0 []) K116) K118) K119) K120) K121) K122) K123) K124) K125) K126) K127) K128) K129) K130) K131) K132) K133) K134) K135) K136) K137) K143) K151) K535
    have CR539 := CR.trans (CHr.keep KK538 all0 CR.1)
    refine uI (o_callSW X535 hx hZ (y := mN3) hown hS (by omega) (W 173) (W 174) (W 2) (W 175) (by decide) (uH (W := 0) (ckW hw x535 em 0 0 0 [] [] [] (1 : Int32) .null .null .null .null O536 CS EM rfl rfl rfl rfl (by decide) RO535 (Or.inl ⟨rfl, rfl⟩) trivial ⟨(fun h => absurd h (of_decide_eq_false rfl)), (fun h => absurd h (of_decide_eq_false rfl)), (fun h => absurd h (of_decide_eq_false rfl))⟩ (fun f hf => nomatch hf)) hZ (W 175) (W 2) (by decide) (by decide) hEL CR539.1) e535 (by decide) (by decide) rfl (hM rfl) (argsL := [(.ref x535), (.int (1 : Int32)), (.int (0 : Int32)), .null, .null, .null, (.int (0 : Int32))]) (rest := []) (lenOf pd78 rfl) rfl rfl (qE rfl rfl) (B at_562).2) ?_
    rintro T537 _ _ h537 X537 e537 ⟨rfl, N537q, K537⟩ hS537 hZ537 hown537 CH537
    have hS := hS537
    have hZ := hZ537
    have hown := hown537
    have zK537 := K537.1
    have CR540 := CR539.trans CH537
    have N537 := Fr.app N535 N537q
    refine yD (fun _ z_ => qF X537 565 570 rfl (B at_565) rfl ((if0 _ _).trans (feq (by decide)).2) (by decide) (yH X537 (B at_570) (qM X537 (B at_571) rfl rfl z_))) ?_
    have f541 := (E535.keep K537)
    have f542 := (Fa535.keep K537 nin0)
    have f543 := (Fb535.keep K537 nin0)
    have f544 := (Fc535.keep K537 nin0)
    have KK545 := yI (yF (Keep.refl h151 [b136]) K535) K537
    exact G152 _ _ _ _ _ (1 + 1) KK545 f541 f542 (by have q := f543; rw [show (ofNat (0 + if qX tx 0 13 then 2 else 1)) = ofNat 1 from by rw [if_neg (show ¬ qX tx 0 13 from fun q => absurd (q.2.trans (h0t.trans hz0)) (by decide))]] at q; exact q) f544 (by omega) hS (by omega) hZ hown CR540 (X537.more (by decide) (by decide)) e537 N537
  · refine yD (fun _ z_ => qF X151 548 573 rfl (B at_548) rfl ((if0 _ _).trans (feq c531).2) (by decide) z_) ?_
    have hz1 : j425_s0 = 65279 := by
     rcases hc0 with ⟨r, -⟩ | ⟨-, q⟩
     · exact absurd r c531
     · exact q
    have KK546 := yN (yN (yI (yI (yN (yN (yN (yN (yN (yN (yN (yN (yN (yN (yN (yN (yN (yN (yN (yN (yN (yN (yI (Keep.refl h0 []) K116) K118) K119) K120) K121) K122) K123) K124) K125) K126) K127) K128) K129) K130) K131) K132) K133) K134) K135) K136) K137) K143) K151
    have CR547 := CR.trans (CHr.keep KK546 all0 CR.1)
    exact G152 _ _ _ _ _ 1 (o_keepW (Keep.refl h151 []) (by simp)) E151 Fa151 (by have q := Fb151; rw [show (ofNat (if (65279 : Int32) = tx.getD 0 0 then 1 else 0)) = ofNat 1 from by rw [if_pos (h0t.trans hz1).symm]] at q; exact q) Fc151 (by omega) hS (by omega) hZ hown CR547 (X151.more (by decide) (by decide)) e151 N151
 intro TG152 LG152 hR152 vmR152 kR152 ln KR152 Ea_ a0_ a1_ a2_ hl1 hS hkR152 hZ hown CR152 XG152 eG152 NG152
 have zKR152 := KR152.1
 suffices G153 : ∀ (Tj : State) (Lj : List Loc) (hR153 : Heap) (vmR153 : Vm) (kR153 : Nat) , (Keep hR152 hR153 [b136]) → (Exa Z hR153 b136 sN1) → (Fld Z hR153 b136 sN1 "m_text" sN9 (.ref b137)) → (Fld Z hR153 b136 sN1 "m_at" "I" (.int (ofNat 5))) → (Fld Z hR153 b136 sN1 "m_line" "I" (.int (ofNat (ln + 1)))) → (s.Since vmR153 kR153) → (kR153 ≤ Array.size hR153) → (Z.Warmed39 (s.setVm vmR153).vm) → ((s.setVm vmR153).vm.findClass sN10 = some m.cls) → (CHr Z uO s.vm h0 vmR153 hR153) → Stand p l e room_1 (s.setVm vmR153) m #[(.int pk), (.int pa), (.int pb), (.int pc)] below meth c Tj Lj 52 1679 → Tj.heap = hR153 → Fr n0 Lj → qV p e below s Z h0 (fun v h L => v = some (.int 1) ∧ Fr n0 L) room_1.cells room_1.slots (Tj.setTop (mkF m 760 #[iv pk, iv pa, iv pb, iv pc, iv j11_s0, iv s1k, iv ek, iv q1k, iv j48_s0, iv tk, iv j72_s0, iv c1k, iv c2k, iv o1, iv j137_s0, iv j168_s0, iv j210_s0, iv j226_s0, iv j245_s0, iv j276_s0, iv rq, iv j299_s0, iv j313_s0, iv j352_s0, iv j405_s0, rv b116, rv b136, iv (ofNat ln), iv (1 : Int32), .unset, .unset, .unset, .unset, .unset, .unset, .unset, .unset] [])) by
  refine yD (fun _ z_ => yJ XG152 (B at_573) rfl (yH XG152 (B at_575) z_)) ?_
  by_cases c390 : s1k = (1 : Int32)
  · refine yD (fun _ z_ => qH XG152 (B at_576) rfl (teq c390).2 (yJ XG152 (B at_579) rfl (yH XG152 (B at_581) z_))) ?_
    by_cases c391 : ek = (1 : Int32)
    · refine yD (fun _ z_ => qH XG152 (B at_582) rfl (teq c391).2 z_) ?_
      have hneA : ¬ qR tx 1 := by rw [htx]; exact o_neA co1
      have hPA : uC tx 3 1 ln 0 = ([[o1], [], []], 0, 5, ln + 1) := by rw [htx]; exact (o_rA ln co1).1 (hs1.elim (fun q => q.2) (fun q => absurd c390 q.1)) (hek.elim (fun q => q.2) (fun q => q.elim (fun q => absurd c391 q.1) (fun q => absurd c391 q.1)))
      refine yD (fun _ z_ => qN XG152 (B at_585) rfl rfl z_) ?_
      have KK392 := yF (yF (Keep.refl h143 [b136]) K151) KR152
      have O393 : Old Z n0 hR152 := O145.keep KK392 (allS (by omega) all0)
      have f394 := (St144.keep KK392 (yB (by omega) nin0) (yB (by omega) nin0))
      refine uI (o_callVW XG152 hx hZ (y := mN1) (z := mN1) hown hS (by omega) (W 75) (W 76) (notFace_of_selects (args := #[]) (mvT hZ (W 78))) (W 78) (W 77) (by decide) (uH (W := 0) (nxR hw b136 b137 tt143 D mr em bE tx 1 ln [[o1], [], []] 0 5 (ln + 1) O393 CS FM FI UT DE MM EM E0 hk (by omega) (by omega) (by omega) (by omega) Ea_ a0_ a1_ a2_ f394 (by omega) hneA hPA (by decide) (o_len16 rfl)) hZ (W 79) (W 7) (by decide) (by decide) hEL CR152.1) eG152 Ea_ (by decide) (by decide) rfl (hM rfl) (argsL := []) (rest := []) (lenOf pd77 rfl) rfl rfl (qE rfl rfl) (B at_587).2) ?_
      rintro T395 _ _ h395 X395 e395 ⟨N395q, K395, E395, Fa395, Fb395, Fc395, x395, s395, t395, rs395, ts395, fv395, rfl, RO395, FV395, FS395⟩ hS395 hZ395 hown395 CH395
      have hS := hS395
      have hZ := hZ395
      have hown := hown395
      have hrn395 := FS395.len.1
      have zK395 := K395.1
      have CR396 := CR152.trans CH395
      have N395 := Fr.app NG152 N395q
      refine yD (fun _ z_ => yJ X395 (B at_590) rfl (yH X395 (B at_592) (yJ X395 (B at_593) rfl z_))) ?_
      have O397 : Old Z n0 h395 := O393.keep K395 (allS (by omega) all0)
      refine qI (qD X395 hZ (y := mN11) hown (W 454) (W 455) (W 2) (W 456) 3 (s1W hw o1 O397 CS UT co1.1) e395 (by decide) rfl (hM rfl) [(.int o1)] (rest := [(.int (3 : Int32)), (.int (ofNat ln)), (.ref x395)]) pd73 rfl rfl rfl rfl rfl (B at_595)) ?_
      rintro T398 _ _ h398 X398 e398 ⟨N398q, b398, t398, rfl, K398, zb398, zt398, S398⟩
      have zK398 := K398.1
      have N398 := Fr.app N395 N398q
      have E398 := S398.1
      have ls398 := S398.lt
      have CR399 := CR396.trans (CHr.keep K398 all0 CR396.1)
      have zo := ldcCH X398 hx hZ hown (W 497) (o_wStr hw) e398 hS (by omega) hEL (by decide) CR399.1 (vs := []) (z := 0) (by decide) (by decide) (by decide) (g := (mkF m 598 #[iv pk, iv pa, iv pb, iv pc, iv j11_s0, iv s1k, iv ek, iv q1k, iv j48_s0, iv tk, iv j72_s0, iv c1k, iv c2k, iv o1, iv j137_s0, iv j168_s0, iv j210_s0, iv j226_s0, iv j245_s0, iv j276_s0, iv rq, iv j299_s0, iv j313_s0, iv j352_s0, iv j405_s0, rv b116, rv b136, iv (ofNat ln), .unset, .unset, .unset, .unset, .unset, .unset, .unset, .unset, .unset] [(.ref b398), (.int (3 : Int32)), (.int (ofNat ln)), (.ref x395)])) rfl (B at_598).2 (n := 0) (by decide) (by decide) (by decide) (by decide)
      obtain ⟨a400, T400, h400, kk400, bb400, kb400, X400, e400, E400, hS400, hk400, hZ400, hown400, A400, Fc400, Fv400, V400, la400, lb400, CH400, L400, sf400, st400⟩ := zo
      replace la400 : (a400 : Nat) < Array.size h400 := la400
      have K400 : Keep h398 h400 [] := (Keep.refl _ _).ext E400
      have hS := hS400
      have hZ := hZ400
      have hown := hown400
      refine yD st400 ?_
      have zK400 := K400.1
      have CR401 := CR399.trans CH400
      have S400 : qQ Z h400 a400 ([] : List Int32) := o_litStr A400 Fc400 Fv400 V400 (by decide) (by decide) (by decide) (by decide)
      refine qO m 600 #[iv pk, iv pa, iv pb, iv pc, iv j11_s0, iv s1k, iv ek, iv q1k, iv j48_s0, iv tk, iv j72_s0, iv c1k, iv c2k, iv o1, iv j137_s0, iv j168_s0, iv j210_s0, iv j226_s0, iv j245_s0, iv j276_s0, iv rq, iv j299_s0, iv j313_s0, iv j352_s0, iv j405_s0, rv b116, rv b136, iv (ofNat ln), .unset, .unset, .unset, .unset, .unset, .unset, .unset, .unset, .unset] [(.ref a400), (.ref b398), (.int (3 : Int32)), (.int (ofNat ln)), (.ref x395)] ?_
      refine yD (ldcAgain X400 hx hZ hown (W 497) L400 (g := (mkF m 600 #[iv pk, iv pa, iv pb, iv pc, iv j11_s0, iv s1k, iv ek, iv q1k, iv j48_s0, iv tk, iv j72_s0, iv c1k, iv c2k, iv o1, iv j137_s0, iv j168_s0, iv j210_s0, iv j226_s0, iv j245_s0, iv j276_s0, iv rq, iv j299_s0, iv j313_s0, iv j352_s0, iv j405_s0, rv b116, rv b136, iv (ofNat ln), .unset, .unset, .unset, .unset, .unset, .unset, .unset, .unset, .unset] [(.ref a400), (.ref b398), (.int (3 : Int32)), (.int (ofNat ln)), (.ref x395)])) rfl (B at_600).2) ?_
      refine yD (fun _ z_ => yH X400 (B at_602) z_) ?_
      have KK402 := yI (yI (Keep.refl h395 []) K398) K400
      have O403 : Old Z n0 h400 := O397.keep KK402 all0
      have f404 := (RO395.keep KK402 nin0)
      have f405 := (uX.keep0 FV395 KK402)
      have f406 := (qT.keep0 FS395 KK402)
      have f407 := (S398.keep K400 nin0 nin0)
      refine uI (o_callSW X400 hx hZ (y := mN3) hown hS (by omega) (W 173) (W 174) (W 2) (W 175) (by decide) (uH (W := 0) (ckW hw x395 em s395 t395 0 rs395 ts395 [[o1], [], []] (ofNat ln) fv395 (.ref b398) (.ref a400) (.ref a400) O403 CS EM rfl rfl rfl FV395.ref (by rw [hrn395]; exact Nat.le_of_ble_eq_true rfl) f404 f405 f406 ⟨(fun _ => ⟨b398, rfl, (yU.str f407)⟩), (fun _ => ⟨a400, rfl, S400⟩), (fun _ => ⟨a400, rfl, S400⟩)⟩ (o_len16 rfl)) hZ (W 175) (W 2) (by decide) (by decide) hEL CR401.1) e400 (by decide) (by decide) rfl (hM rfl) (argsL := [(.ref x395), (.int (ofNat ln)), (.int (3 : Int32)), (.ref b398), (.ref a400), (.ref a400), (.int (0 : Int32))]) (rest := []) (lenOf pd78 rfl) rfl (by rw [hrn395]; rfl) (qE rfl rfl) (B at_603).2) ?_
      rintro T408 _ _ h408 X408 e408 ⟨rfl, N408q, K408⟩ hS408 hZ408 hown408 CH408
      have hS := hS408
      have hZ := hZ408
      have hown := hown408
      have zK408 := K408.1
      have CR409 := CR401.trans CH408
      have N408 := Fr.app N398 N408q
      refine yD (fun _ z_ => qM X408 (B at_606) rfl rfl (yT X408 608 760 rfl (B at_608) (by decide) z_)) ?_
      have KK410 := yI (yI (yI (Keep.refl h395 []) K398) K400) K408
      have f411 := (E395.keep KK410)
      have f412 := (Fa395.keep KK410 nin0)
      have f413 := (Fb395.keep KK410 nin0)
      have f414 := (Fc395.keep KK410 nin0)
      have KK415 := yI (yI (yI (yF (Keep.refl hR152 [b136]) K395) K398) K400) K408
      exact G153 _ _ _ _ _  KK415 f411 f412 f413 f414  hS (by omega) hZ hown CR409 (X408.more (by decide) (by decide)) e408 N408
    · refine yD (fun _ z_ => qG XG152 582 611 rfl (B at_582) rfl (feq c391).2 (by decide) (yJ XG152 (B at_611) rfl (yH XG152 (B at_613) z_))) ?_
      by_cases c416 : ek = (2 : Int32)
      · refine yD (fun _ z_ => qH XG152 (B at_614) rfl (teq c416).2 z_) ?_
        have hneA : ¬ qR tx 1 := by rw [htx]; exact o_neA co1
        have hPA : uC tx 3 1 ln 0 = ([[o1], []], 0, 5, ln + 1) := by rw [htx]; exact (o_rA ln co1).2.1 (hs1.elim (fun q => q.2) (fun q => absurd c390 q.1)) (hek.elim (fun q => absurd q.1 c391) (fun q => q.elim (fun q => q.2.2) (fun q => absurd c416 q.2.1)))
        refine yD (fun _ z_ => qN XG152 (B at_617) rfl rfl z_) ?_
        have KK417 := yF (yF (Keep.refl h143 [b136]) K151) KR152
        have O418 : Old Z n0 hR152 := O145.keep KK417 (allS (by omega) all0)
        have f419 := (St144.keep KK417 (yB (by omega) nin0) (yB (by omega) nin0))
        refine uI (o_callVW XG152 hx hZ (y := mN1) (z := mN1) hown hS (by omega) (W 75) (W 76) (notFace_of_selects (args := #[]) (mvT hZ (W 78))) (W 78) (W 77) (by decide) (uH (W := 0) (nxR hw b136 b137 tt143 D mr em bE tx 1 ln [[o1], []] 0 5 (ln + 1) O418 CS FM FI UT DE MM EM E0 hk (by omega) (by omega) (by omega) (by omega) Ea_ a0_ a1_ a2_ f419 (by omega) hneA hPA (by decide) (o_len16 rfl)) hZ (W 79) (W 7) (by decide) (by decide) hEL CR152.1) eG152 Ea_ (by decide) (by decide) rfl (hM rfl) (argsL := []) (rest := []) (lenOf pd77 rfl) rfl rfl (qE rfl rfl) (B at_619).2) ?_
        rintro T420 _ _ h420 X420 e420 ⟨N420q, K420, E420, Fa420, Fb420, Fc420, x420, s420, t420, rs420, ts420, fv420, rfl, RO420, FV420, FS420⟩ hS420 hZ420 hown420 CH420
        have hS := hS420
        have hZ := hZ420
        have hown := hown420
        have hrn420 := FS420.len.1
        have zK420 := K420.1
        have CR421 := CR152.trans CH420
        have N420 := Fr.app NG152 N420q
        refine yD (fun _ z_ => yJ X420 (B at_622) rfl (yH X420 (B at_624) (yJ X420 (B at_625) rfl z_))) ?_
        have O422 : Old Z n0 h420 := O418.keep K420 (allS (by omega) all0)
        refine qI (qD X420 hZ (y := mN11) hown (W 454) (W 455) (W 2) (W 456) 3 (s1W hw o1 O422 CS UT co1.1) e420 (by decide) rfl (hM rfl) [(.int o1)] (rest := [(.int (2 : Int32)), (.int (ofNat ln)), (.ref x420)]) pd73 rfl rfl rfl rfl rfl (B at_627)) ?_
        rintro T423 _ _ h423 X423 e423 ⟨N423q, b423, t423, rfl, K423, zb423, zt423, S423⟩
        have zK423 := K423.1
        have N423 := Fr.app N420 N423q
        have E423 := S423.1
        have ls423 := S423.lt
        have CR424 := CR421.trans (CHr.keep K423 all0 CR421.1)
        have zo := ldcCH X423 hx hZ hown (W 497) (o_wStr hw) e423 hS (by omega) hEL (by decide) CR424.1 (vs := []) (z := 0) (by decide) (by decide) (by decide) (g := (mkF m 630 #[iv pk, iv pa, iv pb, iv pc, iv j11_s0, iv s1k, iv ek, iv q1k, iv j48_s0, iv tk, iv j72_s0, iv c1k, iv c2k, iv o1, iv j137_s0, iv j168_s0, iv j210_s0, iv j226_s0, iv j245_s0, iv j276_s0, iv rq, iv j299_s0, iv j313_s0, iv j352_s0, iv j405_s0, rv b116, rv b136, iv (ofNat ln), .unset, .unset, .unset, .unset, .unset, .unset, .unset, .unset, .unset] [(.ref b423), (.int (2 : Int32)), (.int (ofNat ln)), (.ref x420)])) rfl (B at_630).2 (n := 0) (by decide) (by decide) (by decide) (by decide)
        obtain ⟨a425, T425, h425, kk425, bb425, kb425, X425, e425, E425, hS425, hk425, hZ425, hown425, A425, Fc425, Fv425, V425, la425, lb425, CH425, L425, sf425, st425⟩ := zo
        replace la425 : (a425 : Nat) < Array.size h425 := la425
        have K425 : Keep h423 h425 [] := (Keep.refl _ _).ext E425
        have hS := hS425
        have hZ := hZ425
        have hown := hown425
        refine yD st425 ?_
        have zK425 := K425.1
        have CR426 := CR424.trans CH425
        have S425 : qQ Z h425 a425 ([] : List Int32) := o_litStr A425 Fc425 Fv425 V425 (by decide) (by decide) (by decide) (by decide)
        refine yD (fun _ z_ => XS.aconstNull X425.here hx rfl (B at_632).2 (yH X425 (B at_633) z_)) ?_
        have KK427 := yI (yI (Keep.refl h420 []) K423) K425
        have O428 : Old Z n0 h425 := O422.keep KK427 all0
        have f429 := (RO420.keep KK427 nin0)
        have f430 := (uX.keep0 FV420 KK427)
        have f431 := (qT.keep0 FS420 KK427)
        have f432 := (S423.keep K425 nin0 nin0)
        refine uI (o_callSW X425 hx hZ (y := mN3) hown hS (by omega) (W 173) (W 174) (W 2) (W 175) (by decide) (uH (W := 0) (ckW hw x420 em s420 t420 0 rs420 ts420 [[o1], []] (ofNat ln) fv420 (.ref b423) (.ref a425) .null O428 CS EM rfl rfl rfl FV420.ref (by rw [hrn420]; exact Nat.le_of_ble_eq_true rfl) f429 f430 f431 ⟨(fun _ => ⟨b423, rfl, (yU.str f432)⟩), (fun _ => ⟨a425, rfl, S425⟩), (fun h => absurd h (of_decide_eq_false rfl))⟩ (o_len16 rfl)) hZ (W 175) (W 2) (by decide) (by decide) hEL CR426.1) e425 (by decide) (by decide) rfl (hM rfl) (argsL := [(.ref x420), (.int (ofNat ln)), (.int (2 : Int32)), (.ref b423), (.ref a425), .null, (.int (0 : Int32))]) (rest := []) (lenOf pd78 rfl) rfl (by rw [hrn420]; rfl) (qE rfl rfl) (B at_634).2) ?_
        rintro T433 _ _ h433 X433 e433 ⟨rfl, N433q, K433⟩ hS433 hZ433 hown433 CH433
        have hS := hS433
        have hZ := hZ433
        have hown := hown433
        have zK433 := K433.1
        have CR434 := CR426.trans CH433
        have N433 := Fr.app N423 N433q
        refine qO m 637 #[iv pk, iv pa, iv pb, iv pc, iv j11_s0, iv s1k, iv ek, iv q1k, iv j48_s0, iv tk, iv j72_s0, iv c1k, iv c2k, iv o1, iv j137_s0, iv j168_s0, iv j210_s0, iv j226_s0, iv j245_s0, iv j276_s0, iv rq, iv j299_s0, iv j313_s0, iv j352_s0, iv j405_s0, rv b116, rv b136, iv (ofNat ln), .unset, .unset, .unset, .unset, .unset, .unset, .unset, .unset, .unset] [(.int (1 : Int32))] ?_
        refine yD (fun _ z_ => qM X433 (B at_637) rfl rfl (yT X433 639 760 rfl (B at_639) (by decide) z_)) ?_
        have KK435 := yI (yI (yI (Keep.refl h420 []) K423) K425) K433
        have f436 := (E420.keep KK435)
        have f437 := (Fa420.keep KK435 nin0)
        have f438 := (Fb420.keep KK435 nin0)
        have f439 := (Fc420.keep KK435 nin0)
        have KK440 := yI (yI (yI (yF (Keep.refl hR152 [b136]) K420) K423) K425) K433
        exact G153 _ _ _ _ _  KK440 f436 f437 f438 f439  hS (by omega) hZ hown CR434 (X433.more (by decide) (by decide)) e433 N433
      · refine yD (fun _ z_ => qG XG152 614 642 rfl (B at_614) rfl (feq c416).2 (by decide) z_) ?_
        have hneA : ¬ qR tx 1 := by rw [htx]; exact o_neA co1
        have hPA : uC tx 3 1 ln 0 = ([[o1], [j168_s0]], 0, 5, ln + 1) := by rw [htx]; exact (o_rA ln co1).2.2.1 (hs1.elim (fun q => q.2) (fun q => absurd c390 q.1)) (hek.elim (fun q => absurd q.1 c391) (fun q => q.elim (fun q => absurd q.2.1 c416) (fun q => q.2.2)))
        refine yD (fun _ z_ => qN XG152 (B at_642) rfl rfl z_) ?_
        have KK441 := yF (yF (Keep.refl h143 [b136]) K151) KR152
        have O442 : Old Z n0 hR152 := O145.keep KK441 (allS (by omega) all0)
        have f443 := (St144.keep KK441 (yB (by omega) nin0) (yB (by omega) nin0))
        refine uI (o_callVW XG152 hx hZ (y := mN1) (z := mN1) hown hS (by omega) (W 75) (W 76) (notFace_of_selects (args := #[]) (mvT hZ (W 78))) (W 78) (W 77) (by decide) (uH (W := 0) (nxR hw b136 b137 tt143 D mr em bE tx 1 ln [[o1], [j168_s0]] 0 5 (ln + 1) O442 CS FM FI UT DE MM EM E0 hk (by omega) (by omega) (by omega) (by omega) Ea_ a0_ a1_ a2_ f443 (by omega) hneA hPA (by decide) (o_len16 rfl)) hZ (W 79) (W 7) (by decide) (by decide) hEL CR152.1) eG152 Ea_ (by decide) (by decide) rfl (hM rfl) (argsL := []) (rest := []) (lenOf pd77 rfl) rfl rfl (qE rfl rfl) (B at_644).2) ?_
        rintro T444 _ _ h444 X444 e444 ⟨N444q, K444, E444, Fa444, Fb444, Fc444, x444, s444, t444, rs444, ts444, fv444, rfl, RO444, FV444, FS444⟩ hS444 hZ444 hown444 CH444
        have hS := hS444
        have hZ := hZ444
        have hown := hown444
        have hrn444 := FS444.len.1
        have zK444 := K444.1
        have CR445 := CR152.trans CH444
        have N444 := Fr.app NG152 N444q
        refine yD (fun _ z_ => yJ X444 (B at_647) rfl (yH X444 (B at_649) (yJ X444 (B at_650) rfl z_))) ?_
        have O446 : Old Z n0 h444 := O442.keep K444 (allS (by omega) all0)
        refine qI (qD X444 hZ (y := mN11) hown (W 454) (W 455) (W 2) (W 456) 3 (s1W hw o1 O446 CS UT co1.1) e444 (by decide) rfl (hM rfl) [(.int o1)] (rest := [(.int (2 : Int32)), (.int (ofNat ln)), (.ref x444)]) pd73 rfl rfl rfl rfl rfl (B at_652)) ?_
        rintro T447 _ _ h447 X447 e447 ⟨N447q, b447, t447, rfl, K447, zb447, zt447, S447⟩
        have zK447 := K447.1
        have N447 := Fr.app N444 N447q
        have E447 := S447.1
        have ls447 := S447.lt
        refine yD (fun _ z_ => yJ X447 (B at_655) rfl z_) ?_
        have O448 : Old Z n0 h447 := O446.keep K447 all0
        refine qI (qD X447 hZ (y := mN11) hown (W 454) (W 455) (W 2) (W 456) 4 (s1W hw j168_s0 O448 CS UT k3) e447 (by decide) rfl (hM rfl) [(.int j168_s0)] (rest := [(.ref b447), (.int (2 : Int32)), (.int (ofNat ln)), (.ref x444)]) pd73 rfl rfl rfl rfl rfl (B at_657)) ?_
        rintro T449 _ _ h449 X449 e449 ⟨N449q, b449, t449, rfl, K449, zb449, zt449, S449⟩
        have zK449 := K449.1
        have N449 := Fr.app N447 N449q
        have E449 := S449.1
        have ls449 := S449.lt
        refine yD (fun _ z_ => XS.aconstNull X449.here hx rfl (B at_660).2 (yH X449 (B at_661) z_)) ?_
        have O450 : Old Z n0 h449 := O448.keep K449 all0
        have KK451 := yI (yI (Keep.refl h444 []) K447) K449
        have f452 := (RO444.keep KK451 nin0)
        have f453 := (uX.keep0 FV444 KK451)
        have f454 := (qT.keep0 FS444 KK451)
        have f455 := (S447.keep K449 nin0 nin0)
        have CR457 := CR445.trans (CHr.keep KK451 all0 CR445.1)
        refine uI (o_callSW X449 hx hZ (y := mN3) hown hS (by omega) (W 173) (W 174) (W 2) (W 175) (by decide) (uH (W := 0) (ckW hw x444 em s444 t444 0 rs444 ts444 [[o1], [j168_s0]] (ofNat ln) fv444 (.ref b447) (.ref b449) .null O450 CS EM rfl rfl rfl FV444.ref (by rw [hrn444]; exact Nat.le_of_ble_eq_true rfl) f452 f453 f454 ⟨(fun _ => ⟨b447, rfl, (yU.str f455)⟩), (fun _ => ⟨b449, rfl, (yU.str S449)⟩), (fun h => absurd h (of_decide_eq_false rfl))⟩ (o_len16 rfl)) hZ (W 175) (W 2) (by decide) (by decide) hEL CR457.1) e449 (by decide) (by decide) rfl (hM rfl) (argsL := [(.ref x444), (.int (ofNat ln)), (.int (2 : Int32)), (.ref b447), (.ref b449), .null, (.int (0 : Int32))]) (rest := []) (lenOf pd78 rfl) rfl (by rw [hrn444]; rfl) (qE rfl rfl) (B at_662).2) ?_
        rintro T456 _ _ h456 X456 e456 ⟨rfl, N456q, K456⟩ hS456 hZ456 hown456 CH456
        have hS := hS456
        have hZ := hZ456
        have hown := hown456
        have zK456 := K456.1
        have CR458 := CR457.trans CH456
        have N456 := Fr.app N449 N456q
        refine yD (fun _ z_ => qM X456 (B at_665) rfl rfl (yT X456 667 760 rfl (B at_667) (by decide) z_)) ?_
        have KK459 := yI (yI (yI (Keep.refl h444 []) K447) K449) K456
        have f460 := (E444.keep KK459)
        have f461 := (Fa444.keep KK459 nin0)
        have f462 := (Fb444.keep KK459 nin0)
        have f463 := (Fc444.keep KK459 nin0)
        have KK464 := yI (yI (yI (yF (Keep.refl hR152 [b136]) K444) K447) K449) K456
        exact G153 _ _ _ _ _  KK464 f460 f461 f462 f463  hS (by omega) hZ hown CR458 (X456.more (by decide) (by decide)) e456 N456
  · refine yD (fun _ z_ => qG XG152 576 670 rfl (B at_576) rfl (feq c390).2 (by decide) (yJ XG152 (B at_670) rfl (yH XG152 (B at_672) z_))) ?_
    by_cases c465 : ek = (1 : Int32)
    · refine yD (fun _ z_ => qH XG152 (B at_673) rfl (teq c465).2 z_) ?_
      refine qO m 676 #[iv pk, iv pa, iv pb, iv pc, iv j11_s0, iv s1k, iv ek, iv q1k, iv j48_s0, iv tk, iv j72_s0, iv c1k, iv c2k, iv o1, iv j137_s0, iv j168_s0, iv j210_s0, iv j226_s0, iv j245_s0, iv j276_s0, iv rq, iv j299_s0, iv j313_s0, iv j352_s0, iv j405_s0, rv b116, rv b136, iv (ofNat ln), .unset, .unset, .unset, .unset, .unset, .unset, .unset, .unset, .unset] [] ?_
      have hneA : ¬ qR tx 1 := by rw [htx]; exact o_neA co1
      have hPA : uC tx 3 1 ln 0 = ([[o1, j137_s0], []], 0, 5, ln + 1) := by rw [htx]; exact (o_rA ln co1).2.2.2.1 (hs1.elim (fun q => absurd q.1 c390) (fun q => q.2)) (hek.elim (fun q => q.2) (fun q => q.elim (fun q => absurd c465 q.1) (fun q => absurd c465 q.1)))
      refine yD (fun _ z_ => qN XG152 (B at_676) rfl rfl z_) ?_
      have KK466 := yF (yF (Keep.refl h143 [b136]) K151) KR152
      have O467 : Old Z n0 hR152 := O145.keep KK466 (allS (by omega) all0)
      have f468 := (St144.keep KK466 (yB (by omega) nin0) (yB (by omega) nin0))
      refine uI (o_callVW XG152 hx hZ (y := mN1) (z := mN1) hown hS (by omega) (W 75) (W 76) (notFace_of_selects (args := #[]) (mvT hZ (W 78))) (W 78) (W 77) (by decide) (uH (W := 0) (nxR hw b136 b137 tt143 D mr em bE tx 1 ln [[o1, j137_s0], []] 0 5 (ln + 1) O467 CS FM FI UT DE MM EM E0 hk (by omega) (by omega) (by omega) (by omega) Ea_ a0_ a1_ a2_ f468 (by omega) hneA hPA (by decide) (o_len16 rfl)) hZ (W 79) (W 7) (by decide) (by decide) hEL CR152.1) eG152 Ea_ (by decide) (by decide) rfl (hM rfl) (argsL := []) (rest := []) (lenOf pd77 rfl) rfl rfl (qE rfl rfl) (B at_678).2) ?_
      rintro T469 _ _ h469 X469 e469 ⟨N469q, K469, E469, Fa469, Fb469, Fc469, x469, s469, t469, rs469, ts469, fv469, rfl, RO469, FV469, FS469⟩ hS469 hZ469 hown469 CH469
      have hS := hS469
      have hZ := hZ469
      have hown := hown469
      have hrn469 := FS469.len.1
      have zK469 := K469.1
      have CR470 := CR152.trans CH469
      have N469 := Fr.app NG152 N469q
      refine yD (fun _ z_ => yJ X469 (B at_681) rfl (yH X469 (B at_683) (yJ X469 (B at_684) rfl (yJ X469 (B at_686) rfl z_)))) ?_
      have O471 : Old Z n0 h469 := O467.keep K469 (allS (by omega) all0)
      refine qI (qD X469 hZ (y := mN15) hown (W 448) (W 449) (W 2) (W 450) 3 (s2W hw o1 j137_s0 O471 CS UT co1.1 k2) e469 (by decide) rfl (hM rfl) [(.int o1), (.int j137_s0)] (rest := [(.int (2 : Int32)), (.int (ofNat ln)), (.ref x469)]) pd79 rfl rfl rfl rfl rfl (B at_688)) ?_
      rintro T472 _ _ h472 X472 e472 ⟨N472q, b472, t472, rfl, K472, zb472, zt472, S472⟩
      have zK472 := K472.1
      have N472 := Fr.app N469 N472q
      have E472 := S472.1
      have ls472 := S472.lt
      have CR473 := CR470.trans (CHr.keep K472 all0 CR470.1)
      have zo := ldcCH X472 hx hZ hown (W 497) (o_wStr hw) e472 hS (by omega) hEL (by decide) CR473.1 (vs := []) (z := 0) (by decide) (by decide) (by decide) (g := (mkF m 691 #[iv pk, iv pa, iv pb, iv pc, iv j11_s0, iv s1k, iv ek, iv q1k, iv j48_s0, iv tk, iv j72_s0, iv c1k, iv c2k, iv o1, iv j137_s0, iv j168_s0, iv j210_s0, iv j226_s0, iv j245_s0, iv j276_s0, iv rq, iv j299_s0, iv j313_s0, iv j352_s0, iv j405_s0, rv b116, rv b136, iv (ofNat ln), .unset, .unset, .unset, .unset, .unset, .unset, .unset, .unset, .unset] [(.ref b472), (.int (2 : Int32)), (.int (ofNat ln)), (.ref x469)])) rfl (B at_691).2 (n := 0) (by decide) (by decide) (by decide) (by decide)
      obtain ⟨a474, T474, h474, kk474, bb474, kb474, X474, e474, E474, hS474, hk474, hZ474, hown474, A474, Fc474, Fv474, V474, la474, lb474, CH474, L474, sf474, st474⟩ := zo
      replace la474 : (a474 : Nat) < Array.size h474 := la474
      have K474 : Keep h472 h474 [] := (Keep.refl _ _).ext E474
      have hS := hS474
      have hZ := hZ474
      have hown := hown474
      refine yD st474 ?_
      have zK474 := K474.1
      have CR475 := CR473.trans CH474
      have S474 : qQ Z h474 a474 ([] : List Int32) := o_litStr A474 Fc474 Fv474 V474 (by decide) (by decide) (by decide) (by decide)
      refine yD (fun _ z_ => XS.aconstNull X474.here hx rfl (B at_693).2 (yH X474 (B at_694) z_)) ?_
      have KK476 := yI (yI (Keep.refl h469 []) K472) K474
      have O477 : Old Z n0 h474 := O471.keep KK476 all0
      have f478 := (RO469.keep KK476 nin0)
      have f479 := (uX.keep0 FV469 KK476)
      have f480 := (qT.keep0 FS469 KK476)
      have f481 := (S472.keep K474 nin0 nin0)
      refine uI (o_callSW X474 hx hZ (y := mN3) hown hS (by omega) (W 173) (W 174) (W 2) (W 175) (by decide) (uH (W := 0) (ckW hw x469 em s469 t469 0 rs469 ts469 [[o1, j137_s0], []] (ofNat ln) fv469 (.ref b472) (.ref a474) .null O477 CS EM rfl rfl rfl FV469.ref (by rw [hrn469]; exact Nat.le_of_ble_eq_true rfl) f478 f479 f480 ⟨(fun _ => ⟨b472, rfl, (yU.str f481)⟩), (fun _ => ⟨a474, rfl, S474⟩), (fun h => absurd h (of_decide_eq_false rfl))⟩ (o_len16 rfl)) hZ (W 175) (W 2) (by decide) (by decide) hEL CR475.1) e474 (by decide) (by decide) rfl (hM rfl) (argsL := [(.ref x469), (.int (ofNat ln)), (.int (2 : Int32)), (.ref b472), (.ref a474), .null, (.int (0 : Int32))]) (rest := []) (lenOf pd78 rfl) rfl (by rw [hrn469]; rfl) (qE rfl rfl) (B at_695).2) ?_
      rintro T482 _ _ h482 X482 e482 ⟨rfl, N482q, K482⟩ hS482 hZ482 hown482 CH482
      have hS := hS482
      have hZ := hZ482
      have hown := hown482
      have zK482 := K482.1
      have CR483 := CR475.trans CH482
      have N482 := Fr.app N472 N482q
      refine yD (fun _ z_ => qM X482 (B at_698) rfl rfl (yT X482 700 760 rfl (B at_700) (by decide) z_)) ?_
      have KK484 := yI (yI (yI (Keep.refl h469 []) K472) K474) K482
      have f485 := (E469.keep KK484)
      have f486 := (Fa469.keep KK484 nin0)
      have f487 := (Fb469.keep KK484 nin0)
      have f488 := (Fc469.keep KK484 nin0)
      have KK489 := yI (yI (yI (yF (Keep.refl hR152 [b136]) K469) K472) K474) K482
      exact G153 _ _ _ _ _  KK489 f485 f486 f487 f488  hS (by omega) hZ hown CR483 (X482.more (by decide) (by decide)) e482 N482
    · refine yD (fun _ z_ => qG XG152 673 703 rfl (B at_673) rfl (feq c465).2 (by decide) (yJ XG152 (B at_703) rfl (yH XG152 (B at_705) z_))) ?_
      by_cases c490 : ek = (2 : Int32)
      · refine yD (fun _ z_ => qH XG152 (B at_706) rfl (teq c490).2 z_) ?_
        have hneA : ¬ qR tx 1 := by rw [htx]; exact o_neA co1
        have hPA : uC tx 3 1 ln 0 = ([[o1, j137_s0]], 0, 5, ln + 1) := by rw [htx]; exact (o_rA ln co1).2.2.2.2.1 (hs1.elim (fun q => absurd q.1 c390) (fun q => q.2)) (hek.elim (fun q => absurd q.1 c465) (fun q => q.elim (fun q => q.2.2) (fun q => absurd c490 q.2.1)))
        refine yD (fun _ z_ => qN XG152 (B at_709) rfl rfl z_) ?_
        have KK491 := yF (yF (Keep.refl h143 [b136]) K151) KR152
        have O492 : Old Z n0 hR152 := O145.keep KK491 (allS (by omega) all0)
        have f493 := (St144.keep KK491 (yB (by omega) nin0) (yB (by omega) nin0))
        refine uI (o_callVW XG152 hx hZ (y := mN1) (z := mN1) hown hS (by omega) (W 75) (W 76) (notFace_of_selects (args := #[]) (mvT hZ (W 78))) (W 78) (W 77) (by decide) (uH (W := 0) (nxR hw b136 b137 tt143 D mr em bE tx 1 ln [[o1, j137_s0]] 0 5 (ln + 1) O492 CS FM FI UT DE MM EM E0 hk (by omega) (by omega) (by omega) (by omega) Ea_ a0_ a1_ a2_ f493 (by omega) hneA hPA (by decide) (o_len16 rfl)) hZ (W 79) (W 7) (by decide) (by decide) hEL CR152.1) eG152 Ea_ (by decide) (by decide) rfl (hM rfl) (argsL := []) (rest := []) (lenOf pd77 rfl) rfl rfl (qE rfl rfl) (B at_711).2) ?_
        rintro T494 _ _ h494 X494 e494 ⟨N494q, K494, E494, Fa494, Fb494, Fc494, x494, s494, t494, rs494, ts494, fv494, rfl, RO494, FV494, FS494⟩ hS494 hZ494 hown494 CH494
        have hS := hS494
        have hZ := hZ494
        have hown := hown494
        have hrn494 := FS494.len.1
        have zK494 := K494.1
        have CR495 := CR152.trans CH494
        have N494 := Fr.app NG152 N494q
        refine yD (fun _ z_ => yJ X494 (B at_714) rfl (yH X494 (B at_716) (yJ X494 (B at_717) rfl (yJ X494 (B at_719) rfl z_)))) ?_
        refine qO m 721 #[iv pk, iv pa, iv pb, iv pc, iv j11_s0, iv s1k, iv ek, iv q1k, iv j48_s0, iv tk, iv j72_s0, iv c1k, iv c2k, iv o1, iv j137_s0, iv j168_s0, iv j210_s0, iv j226_s0, iv j245_s0, iv j276_s0, iv rq, iv j299_s0, iv j313_s0, iv j352_s0, iv j405_s0, rv b116, rv b136, iv (ofNat ln), .unset, .unset, .unset, .unset, .unset, .unset, .unset, .unset, .unset] [(.int j137_s0), (.int o1), (.int (1 : Int32)), (.int (ofNat ln)), (.ref x494)] ?_
        have O496 : Old Z n0 h494 := O492.keep K494 (allS (by omega) all0)
        refine qI (qD X494 hZ (y := mN15) hown (W 448) (W 449) (W 2) (W 450) 3 (s2W hw o1 j137_s0 O496 CS UT co1.1 k2) e494 (by decide) rfl (hM rfl) [(.int o1), (.int j137_s0)] (rest := [(.int (1 : Int32)), (.int (ofNat ln)), (.ref x494)]) pd79 rfl rfl rfl rfl rfl (B at_721)) ?_
        rintro T497 _ _ h497 X497 e497 ⟨N497q, b497, t497, rfl, K497, zb497, zt497, S497⟩
        have zK497 := K497.1
        have N497 := Fr.app N494 N497q
        have E497 := S497.1
        have ls497 := S497.lt
        refine yD (fun _ z_ => XS.aconstNull X497.here hx rfl (B at_724).2 (XS.aconstNull X497.here hx rfl (B at_725).2 (yH X497 (B at_726) z_))) ?_
        have O498 : Old Z n0 h497 := O496.keep K497 all0
        have f499 := (RO494.keep K497 nin0)
        have f500 := (uX.keep0 FV494 K497)
        have f501 := (qT.keep0 FS494 K497)
        have CR503 := CR495.trans (CHr.keep K497 all0 CR495.1)
        refine uI (o_callSW X497 hx hZ (y := mN3) hown hS (by omega) (W 173) (W 174) (W 2) (W 175) (by decide) (uH (W := 0) (ckW hw x494 em s494 t494 0 rs494 ts494 [[o1, j137_s0]] (ofNat ln) fv494 (.ref b497) .null .null O498 CS EM rfl rfl rfl FV494.ref (by rw [hrn494]; exact Nat.le_of_ble_eq_true rfl) f499 f500 f501 ⟨(fun _ => ⟨b497, rfl, (yU.str S497)⟩), (fun h => absurd h (of_decide_eq_false rfl)), (fun h => absurd h (of_decide_eq_false rfl))⟩ (o_len16 rfl)) hZ (W 175) (W 2) (by decide) (by decide) hEL CR503.1) e497 (by decide) (by decide) rfl (hM rfl) (argsL := [(.ref x494), (.int (ofNat ln)), (.int (1 : Int32)), (.ref b497), .null, .null, (.int (0 : Int32))]) (rest := []) (lenOf pd78 rfl) rfl (by rw [hrn494]; rfl) (qE rfl rfl) (B at_727).2) ?_
        rintro T502 _ _ h502 X502 e502 ⟨rfl, N502q, K502⟩ hS502 hZ502 hown502 CH502
        have hS := hS502
        have hZ := hZ502
        have hown := hown502
        have zK502 := K502.1
        have CR504 := CR503.trans CH502
        have N502 := Fr.app N497 N502q
        refine yD (fun _ z_ => qM X502 (B at_730) rfl rfl (yT X502 732 760 rfl (B at_732) (by decide) z_)) ?_
        have KK505 := yI (yI (Keep.refl h494 []) K497) K502
        have f506 := (E494.keep KK505)
        have f507 := (Fa494.keep KK505 nin0)
        have f508 := (Fb494.keep KK505 nin0)
        have f509 := (Fc494.keep KK505 nin0)
        have KK510 := yI (yI (yF (Keep.refl hR152 [b136]) K494) K497) K502
        exact G153 _ _ _ _ _  KK510 f506 f507 f508 f509  hS (by omega) hZ hown CR504 (X502.more (by decide) (by decide)) e502 N502
      · refine yD (fun _ z_ => qG XG152 706 735 rfl (B at_706) rfl (feq c490).2 (by decide) z_) ?_
        have hneA : ¬ qR tx 1 := by rw [htx]; exact o_neA co1
        have hPA : uC tx 3 1 ln 0 = ([[o1, j137_s0, j168_s0]], 0, 5, ln + 1) := by rw [htx]; exact (o_rA ln co1).2.2.2.2.2 (hs1.elim (fun q => absurd q.1 c390) (fun q => q.2)) (hek.elim (fun q => absurd q.1 c465) (fun q => q.elim (fun q => absurd q.2.1 c490) (fun q => q.2.2)))
        refine yD (fun _ z_ => qN XG152 (B at_735) rfl rfl z_) ?_
        have KK511 := yF (yF (Keep.refl h143 [b136]) K151) KR152
        have O512 : Old Z n0 hR152 := O145.keep KK511 (allS (by omega) all0)
        have f513 := (St144.keep KK511 (yB (by omega) nin0) (yB (by omega) nin0))
        refine uI (o_callVW XG152 hx hZ (y := mN1) (z := mN1) hown hS (by omega) (W 75) (W 76) (notFace_of_selects (args := #[]) (mvT hZ (W 78))) (W 78) (W 77) (by decide) (uH (W := 0) (nxR hw b136 b137 tt143 D mr em bE tx 1 ln [[o1, j137_s0, j168_s0]] 0 5 (ln + 1) O512 CS FM FI UT DE MM EM E0 hk (by omega) (by omega) (by omega) (by omega) Ea_ a0_ a1_ a2_ f513 (by omega) hneA hPA (by decide) (o_len16 rfl)) hZ (W 79) (W 7) (by decide) (by decide) hEL CR152.1) eG152 Ea_ (by decide) (by decide) rfl (hM rfl) (argsL := []) (rest := []) (lenOf pd77 rfl) rfl rfl (qE rfl rfl) (B at_737).2) ?_
        rintro T514 _ _ h514 X514 e514 ⟨N514q, K514, E514, Fa514, Fb514, Fc514, x514, s514, t514, rs514, ts514, fv514, rfl, RO514, FV514, FS514⟩ hS514 hZ514 hown514 CH514
        have hS := hS514
        have hZ := hZ514
        have hown := hown514
        have hrn514 := FS514.len.1
        have zK514 := K514.1
        have CR515 := CR152.trans CH514
        have N514 := Fr.app NG152 N514q
        refine yD (fun _ z_ => yJ X514 (B at_740) rfl (yH X514 (B at_742) (yJ X514 (B at_743) rfl (yJ X514 (B at_745) rfl (yJ X514 (B at_747) rfl z_))))) ?_
        have O516 : Old Z n0 h514 := O512.keep K514 (allS (by omega) all0)
        refine qI (qD X514 hZ (y := mN36) hown (W 399) (W 400) (W 2) (W 401) 3 (s3W hw o1 j137_s0 j168_s0 O516 CS UT co1.1 k2 k3) e514 (by decide) rfl (hM rfl) [(.int o1), (.int j137_s0), (.int j168_s0)] (rest := [(.int (1 : Int32)), (.int (ofNat ln)), (.ref x514)]) pd80 rfl rfl rfl rfl rfl (B at_749)) ?_
        rintro T517 _ _ h517 X517 e517 ⟨N517q, b517, t517, rfl, K517, zb517, zt517, S517⟩
        have zK517 := K517.1
        have N517 := Fr.app N514 N517q
        have E517 := S517.1
        have ls517 := S517.lt
        refine yD (fun _ z_ => XS.aconstNull X517.here hx rfl (B at_752).2 (XS.aconstNull X517.here hx rfl (B at_753).2 (yH X517 (B at_754) z_))) ?_
        have O518 : Old Z n0 h517 := O516.keep K517 all0
        have f519 := (RO514.keep K517 nin0)
        have f520 := (uX.keep0 FV514 K517)
        have f521 := (qT.keep0 FS514 K517)
        have CR523 := CR515.trans (CHr.keep K517 all0 CR515.1)
        refine uI (o_callSW X517 hx hZ (y := mN3) hown hS (by omega) (W 173) (W 174) (W 2) (W 175) (by decide) (uH (W := 0) (ckW hw x514 em s514 t514 0 rs514 ts514 [[o1, j137_s0, j168_s0]] (ofNat ln) fv514 (.ref b517) .null .null O518 CS EM rfl rfl rfl FV514.ref (by rw [hrn514]; exact Nat.le_of_ble_eq_true rfl) f519 f520 f521 ⟨(fun _ => ⟨b517, rfl, (yU.str S517)⟩), (fun h => absurd h (of_decide_eq_false rfl)), (fun h => absurd h (of_decide_eq_false rfl))⟩ (o_len16 rfl)) hZ (W 175) (W 2) (by decide) (by decide) hEL CR523.1) e517 (by decide) (by decide) rfl (hM rfl) (argsL := [(.ref x514), (.int (ofNat ln)), (.int (1 : Int32)), (.ref b517), .null, .null, (.int (0 : Int32))]) (rest := []) (lenOf pd78 rfl) rfl (by rw [hrn514]; rfl) (qE rfl rfl) (B at_755).2) ?_
        rintro T522 _ _ h522 X522 e522 ⟨rfl, N522q, K522⟩ hS522 hZ522 hown522 CH522
        have hS := hS522
        have hZ := hZ522
        have hown := hown522
        have zK522 := K522.1
        have CR524 := CR523.trans CH522
        have N522 := Fr.app N517 N522q
        refine yD (fun _ z_ => qM X522 (B at_758) rfl rfl z_) ?_
        have KK525 := yI (yI (Keep.refl h514 []) K517) K522
        have f526 := (E514.keep KK525)
        have f527 := (Fa514.keep KK525 nin0)
        have f528 := (Fb514.keep KK525 nin0)
        have f529 := (Fc514.keep KK525 nin0)
        have KK530 := yI (yI (yF (Keep.refl hR152 [b136]) K514) K517) K522
        exact G153 _ _ _ _ _  KK530 f526 f527 f528 f529  hS (by omega) hZ hown CR524 (X522.more (by decide) (by decide)) e522 N522
 intro TG153 LG153 hR153 vmR153 kR153  KR153 Eb_ b0_ b1_ b2_ hS hkR153 hZ hown CR153 XG153 eG153 NG153
 have zKR153 := KR153.1
 refine yD (fun _ z_ => yJ XG153 (B at_760) rfl (qF XG153 762 767 rfl (B at_762) rfl ((if0 _ _).trans (feq (by decide)).2) (by decide) (yJ XG153 (B at_767) rfl (yH XG153 (B at_769) (XS.iadd XG153.here hx rfl (B at_770).2 rfl z_))))) ?_
 refine qO m 771 #[iv pk, iv pa, iv pb, iv pc, iv j11_s0, iv s1k, iv ek, iv q1k, iv j48_s0, iv tk, iv j72_s0, iv c1k, iv c2k, iv o1, iv j137_s0, iv j168_s0, iv j210_s0, iv j226_s0, iv j245_s0, iv j276_s0, iv rq, iv j299_s0, iv j313_s0, iv j352_s0, iv j405_s0, rv b116, rv b136, iv (ofNat ln), iv (1 : Int32), .unset, .unset, .unset, .unset, .unset, .unset, .unset, .unset] [(.int ((ofNat ln) + (1 : Int32)))] ?_
 rw [show ((ofNat ln) + (1 : Int32)) = (ofNat (ln + 1)) from (uD (b := 1) (by omega))]
 refine yD (fun _ z_ => qM XG153 (B at_771) rfl rfl z_) ?_
 suffices G154 : ∀ (Tj : State) (Lj : List Loc) (hR154 : Heap) (vmR154 : Vm) (kR154 : Nat) (f29 t29 f30 t30 : Nat) (Lf Lg : List Int32), (Keep hR153 hR154 []) → (yU Z hR154 f29 t29 Lf) → (yU Z hR154 f30 t30 Lg) → (Array.size hR153 ≤ f29 ∧ Array.size hR153 ≤ t29 ∧ Array.size hR153 ≤ f30 ∧ Array.size hR153 ≤ t30) → ((j226_s0 = 34 ∧ j245_s0 = 34 ∧ Lf = [j210_s0, 34] ∧ Lg = [j210_s0, 34, j276_s0]) ∨ (uS j226_s0 ∧ uS j245_s0 ∧ Lf = [j210_s0, j226_s0, j245_s0] ∧ Lg = [j210_s0, j226_s0, j245_s0, j276_s0])) → (s.Since vmR154 kR154) → (kR154 ≤ Array.size hR154) → (Z.Warmed39 (s.setVm vmR154).vm) → ((s.setVm vmR154).vm.findClass sN10 = some m.cls) → (CHr Z uO s.vm h0 vmR154 hR154) → Stand p l e room_1 (s.setVm vmR154) m #[(.int pk), (.int pa), (.int pb), (.int pc)] below meth c Tj Lj 60 1814 → Tj.heap = hR154 → Fr n0 Lj → qV p e below s Z h0 (fun v h L => v = some (.int 1) ∧ Fr n0 L) room_1.cells room_1.slots (Tj.setTop (mkF m 829 #[iv pk, iv pa, iv pb, iv pc, iv j11_s0, iv s1k, iv ek, iv q1k, iv j48_s0, iv tk, iv j72_s0, iv c1k, iv c2k, iv o1, iv j137_s0, iv j168_s0, iv j210_s0, iv j226_s0, iv j245_s0, iv j276_s0, iv rq, iv j299_s0, iv j313_s0, iv j352_s0, iv j405_s0, rv b116, rv b136, iv (ofNat (ln + 1)), iv (1 : Int32), rv f29, rv f30, .unset, .unset, .unset, .unset, .unset, .unset] [])) by
  refine yD (fun _ z_ => yJ XG153 (B at_773) rfl z_) ?_
  by_cases c373 : j48_s0 = (0 : Int32)
  · refine yD (fun _ z_ => qF XG153 775 788 rfl (B at_775) rfl ((if0 _ _).trans (teq c373).1) (by decide) (yJ XG153 (B at_788) rfl (yJ XG153 (B at_790) rfl (yJ XG153 (B at_792) rfl z_)))) ?_
    have KK374 := yF (yF (yF (Keep.refl h143 [b136]) K151) KR152) KR153
    have O375 : Old Z n0 hR153 := O145.keep KK374 (allS (by omega) all0)
    refine qI (qD XG153 hZ (y := mN36) hown (W 399) (W 400) (W 2) (W 401) 0 (s3W hw j210_s0 j226_s0 j245_s0 O375 CS UT (o_4c hq1.1) k5.1 k5.2) eG153 (by decide) rfl (hM rfl) [(.int j210_s0), (.int j226_s0), (.int j245_s0)] (rest := []) pd80 rfl rfl rfl rfl rfl (B at_794)) ?_
    rintro T376 _ _ h376 X376 e376 ⟨N376q, b376, t376, rfl, K376, zb376, zt376, S376⟩
    have zK376 := K376.1
    have N376 := Fr.app NG153 N376q
    have E376 := S376.1
    have ls376 := S376.lt
    refine yD (fun _ z_ => XS.astore X376.here hx rfl (B at_797).2 rfl rfl rfl (yJ X376 (B at_799) rfl (qF X376 801 816 rfl (B at_801) rfl ((if0 _ _).trans (teq c373).1) (by decide) (yJ X376 (B at_816) rfl (yJ X376 (B at_818) rfl (yJ X376 (B at_820) rfl z_)))))) ?_
    refine yD (fun _ z_ => yJ X376 (B at_822) rfl z_) ?_
    have O377 : Old Z n0 h376 := O375.keep K376 all0
    refine qI (qD X376 hZ (y := (⟨sN10, "str4", "(CCCC)Ljava/lang/String;"⟩ : MethodName)) hown (W 425) (W 426) (W 2) (W 427) 0 (s4W hw j210_s0 j226_s0 j245_s0 j276_s0 O377 CS UT (o_4c hq1.1) k5.1 k5.2 k7) e376 (by decide) rfl (hM rfl) [(.int j210_s0), (.int j226_s0), (.int j245_s0), (.int j276_s0)] (rest := []) pd81 rfl rfl rfl rfl rfl (B at_824)) ?_
    rintro T378 _ _ h378 X378 e378 ⟨N378q, b378, t378, rfl, K378, zb378, zt378, S378⟩
    have zK378 := K378.1
    have N378 := Fr.app N376 N378q
    have E378 := S378.1
    have ls378 := S378.lt
    refine yD (fun _ z_ => XS.astore X378.here hx rfl (B at_827).2 rfl rfl rfl z_) ?_
    have hBx := hpp
    have f379 := (S376.keep K378 nin0 nin0)
    have KK380 := yI (yI (Keep.refl hR153 []) K376) K378
    have CR381 := CR153.trans (CHr.keep KK380 all0 CR153.1)
    exact G154 _ _ _ _ _ b376 t376 b378 t378 _ _ KK380 f379 S378 (by omega) (Or.inr (hpp.elim (fun q => ⟨q.2.1, q.2.2, rfl, rfl⟩) (fun q => absurd c373 q.1))) hS (by omega) hZ hown CR381 (X378.more (by decide) (by decide)) e378 N378
  · refine yD (fun _ z_ => qA XG153 (B at_775) rfl ((if0 _ _).trans (feq c373).1) (yJ XG153 (B at_778) rfl (yY XG153 (B at_780) z_))) ?_
    refine qO m 782 #[iv pk, iv pa, iv pb, iv pc, iv j11_s0, iv s1k, iv ek, iv q1k, iv j48_s0, iv tk, iv j72_s0, iv c1k, iv c2k, iv o1, iv j137_s0, iv j168_s0, iv j210_s0, iv j226_s0, iv j245_s0, iv j276_s0, iv rq, iv j299_s0, iv j313_s0, iv j352_s0, iv j405_s0, rv b116, rv b136, iv (ofNat (ln + 1)), iv (1 : Int32), .unset, .unset, .unset, .unset, .unset, .unset, .unset, .unset] [(.int (34 : Int32)), (.int j210_s0)] ?_
    have KK382 := yF (yF (yF (Keep.refl h143 [b136]) K151) KR152) KR153
    have O383 : Old Z n0 hR153 := O145.keep KK382 (allS (by omega) all0)
    refine qI (qD XG153 hZ (y := mN15) hown (W 448) (W 449) (W 2) (W 450) 0 (s2W hw j210_s0 (34 : Int32) O383 CS UT (o_4c hq1.1) ⟨by decide, by decide⟩) eG153 (by decide) rfl (hM rfl) [(.int j210_s0), (.int (34 : Int32))] (rest := []) pd79 rfl rfl rfl rfl rfl (B at_782)) ?_
    rintro T384 _ _ h384 X384 e384 ⟨N384q, b384, t384, rfl, K384, zb384, zt384, S384⟩
    have zK384 := K384.1
    have N384 := Fr.app NG153 N384q
    have E384 := S384.1
    have ls384 := S384.lt
    refine yD (fun _ z_ => yT X384 785 797 rfl (B at_785) (by decide) (XS.astore X384.here hx rfl (B at_797).2 rfl rfl rfl (yJ X384 (B at_799) rfl (qA X384 (B at_801) rfl ((if0 _ _).trans (feq c373).1) (yJ X384 (B at_804) rfl (yY X384 (B at_806) z_)))))) ?_
    refine yD (fun _ z_ => yJ X384 (B at_808) rfl z_) ?_
    have O385 : Old Z n0 h384 := O383.keep K384 all0
    refine qI (qD X384 hZ (y := mN36) hown (W 399) (W 400) (W 2) (W 401) 0 (s3W hw j210_s0 (34 : Int32) j276_s0 O385 CS UT (o_4c hq1.1) ⟨by decide, by decide⟩ k7) e384 (by decide) rfl (hM rfl) [(.int j210_s0), (.int (34 : Int32)), (.int j276_s0)] (rest := []) pd80 rfl rfl rfl rfl rfl (B at_810)) ?_
    rintro T386 _ _ h386 X386 e386 ⟨N386q, b386, t386, rfl, K386, zb386, zt386, S386⟩
    have zK386 := K386.1
    have N386 := Fr.app N384 N386q
    have E386 := S386.1
    have ls386 := S386.lt
    refine yD (fun _ z_ => yT X386 813 827 rfl (B at_813) (by decide) (XS.astore X386.here hx rfl (B at_827).2 rfl rfl rfl z_)) ?_
    have hBx := hpp
    have f387 := (S384.keep K386 nin0 nin0)
    have KK388 := yI (yI (Keep.refl hR153 []) K384) K386
    have CR389 := CR153.trans (CHr.keep KK388 all0 CR153.1)
    exact G154 _ _ _ _ _ b384 t384 b386 t386 _ _ KK388 f387 S386 (by omega) (Or.inl (hpp.elim (fun q => absurd q.1 c373) (fun q => ⟨q.2.1, q.2.2, rfl, rfl⟩))) hS (by omega) hZ hown CR389 (X386.more (by decide) (by decide)) e386 N386
 intro TG154 LG154 hR154 vmR154 kR154 f29 t29 f30 t30 Lf Lg KR154 S29 S30 hB1 hB hS hkR154 hZ hown CR154 XG154 eG154 NG154
 have zKR154 := KR154.1
 have ls29 := S29.lt
 have ls30 := S30.lt
 have ES29 := S29.1
 have ES30 := S30.1
 have hLl : Lf.length < 16 ∧ Lg.length < 16 := by rcases hB with ⟨-, -, rfl, rfl⟩ | ⟨-, -, rfl, rfl⟩ <;> exact ⟨Nat.le_of_ble_eq_true rfl, Nat.le_of_ble_eq_true rfl⟩
 have hneB : ¬ qR tx 5 := by rw [htx]; exact o_neB
 suffices G155 : ∀ (Tj : State) (Lj : List Loc) (hR155 : Heap) (vmR155 : Vm) (kR155 : Nat) , (Keep hR154 hR155 [b136]) → (Exa Z hR155 b136 sN1) → (Fld Z hR155 b136 sN1 "m_text" sN9 (.ref b137)) → (Fld Z hR155 b136 sN1 "m_at" "I" (.int (ofNat 12))) → (Fld Z hR155 b136 sN1 "m_line" "I" (.int (ofNat (ln + 1 + if j210_s0 = 10 then 2 else 1)))) → (s.Since vmR155 kR155) → (kR155 ≤ Array.size hR155) → (Z.Warmed39 (s.setVm vmR155).vm) → ((s.setVm vmR155).vm.findClass sN10 = some m.cls) → (CHr Z uO s.vm h0 vmR155 hR155) → Stand p l e room_1 (s.setVm vmR155) m #[(.int pk), (.int pa), (.int pb), (.int pc)] below meth c Tj Lj 96 3221 → Tj.heap = hR155 → Fr n0 Lj → qV p e below s Z h0 (fun v h L => v = some (.int 1) ∧ Fr n0 L) room_1.cells room_1.slots (Tj.setTop (mkF m 902 #[iv pk, iv pa, iv pb, iv pc, iv j11_s0, iv s1k, iv ek, iv q1k, iv j48_s0, iv tk, iv j72_s0, iv c1k, iv c2k, iv o1, iv j137_s0, iv j168_s0, iv j210_s0, iv j226_s0, iv j245_s0, iv j276_s0, iv rq, iv j299_s0, iv j313_s0, iv j352_s0, iv j405_s0, rv b116, rv b136, iv (ofNat (ln + 1)), iv (1 : Int32), rv f29, rv f30, iv (1 : Int32), .unset, .unset, .unset, .unset, .unset] [])) by
  refine yD (fun _ z_ => yJ XG154 (B at_829) rfl (yH XG154 (B at_831) z_)) ?_
  by_cases c310 : tk = (1 : Int32)
  · refine yD (fun _ z_ => qH XG154 (B at_832) rfl (teq c310).2 z_) ?_
    refine qO m 835 #[iv pk, iv pa, iv pb, iv pc, iv j11_s0, iv s1k, iv ek, iv q1k, iv j48_s0, iv tk, iv j72_s0, iv c1k, iv c2k, iv o1, iv j137_s0, iv j168_s0, iv j210_s0, iv j226_s0, iv j245_s0, iv j276_s0, iv rq, iv j299_s0, iv j313_s0, iv j352_s0, iv j405_s0, rv b116, rv b136, iv (ofNat (ln + 1)), iv (1 : Int32), rv f29, rv f30, .unset, .unset, .unset, .unset, .unset, .unset] [] ?_
    have hPB : uC tx 3 5 (ln + 1) 0 = ([Lf, []], 0, 12, (ln + 1 + if j210_s0 = 10 then 2 else 1)) := by
     rw [htx]
     rcases hB with ⟨b1, b2, b3, b4⟩ | ⟨b1, b2, b3, b4⟩ <;> subst b3 b4
     · exact (o_rB (ln + 1) hq1.1).1 b1 b2 (htk.elim (fun q => q.2) (fun q => q.elim (fun q => absurd c310 q.1) (fun q => absurd c310 q.1)))
     · exact (o_rB (ln + 1) hq1.1).2.2.2.1 b1 b2 (htk.elim (fun q => q.2) (fun q => q.elim (fun q => absurd c310 q.1) (fun q => absurd c310 q.1)))
    refine yD (fun _ z_ => qN XG154 (B at_835) rfl rfl z_) ?_
    have KK311 := yI (yF (yF (yF (Keep.refl h143 [b136]) K151) KR152) KR153) KR154
    have O312 : Old Z n0 hR154 := O145.keep KK311 (allS (by omega) all0)
    have f313 := (St144.keep KK311 (yB (by omega) nin0) (yB (by omega) nin0))
    have f314 := (Eb_.keep KR154)
    have f315 := (b0_.keep KR154 nin0)
    have f316 := (b1_.keep KR154 nin0)
    have f317 := (b2_.keep KR154 nin0)
    refine uI (o_callVW XG154 hx hZ (y := mN1) (z := mN1) hown hS (by omega) (W 75) (W 76) (notFace_of_selects (args := #[]) (mvT hZ (W 78))) (W 78) (W 77) (by decide) (uH (W := 0) (nxR hw b136 b137 tt143 D mr em bE tx 5 (ln + 1) [Lf, []] 0 12 (ln + 1 + if j210_s0 = 10 then 2 else 1) O312 CS FM FI UT DE MM EM E0 hk (by omega) (by omega) (by omega) (by omega) f314 f315 f316 f317 f313 (by omega) hneB hPB (by decide) (o_l162 hLl.1)) hZ (W 79) (W 7) (by decide) (by decide) hEL CR154.1) eG154 f314 (by decide) (by decide) rfl (hM rfl) (argsL := []) (rest := []) (lenOf pd77 rfl) rfl rfl (qE rfl rfl) (B at_837).2) ?_
    rintro T318 _ _ h318 X318 e318 ⟨N318q, K318, E318, Fa318, Fb318, Fc318, x318, s318, t318, rs318, ts318, fv318, rfl, RO318, FV318, FS318⟩ hS318 hZ318 hown318 CH318
    have hS := hS318
    have hZ := hZ318
    have hown := hown318
    have hrn318 := FS318.len.1
    have zK318 := K318.1
    have CR319 := CR154.trans CH318
    have N318 := Fr.app NG154 N318q
    refine yD (fun _ z_ => yJ X318 (B at_840) rfl (yH X318 (B at_842) (qN X318 (B at_843) rfl rfl z_))) ?_
    have zo := ldcCH X318 hx hZ hown (W 497) (o_wStr hw) e318 hS (by omega) hEL (by decide) CR319.1 (vs := []) (z := 0) (by decide) (by decide) (by decide) (g := (mkF m 845 #[iv pk, iv pa, iv pb, iv pc, iv j11_s0, iv s1k, iv ek, iv q1k, iv j48_s0, iv tk, iv j72_s0, iv c1k, iv c2k, iv o1, iv j137_s0, iv j168_s0, iv j210_s0, iv j226_s0, iv j245_s0, iv j276_s0, iv rq, iv j299_s0, iv j313_s0, iv j352_s0, iv j405_s0, rv b116, rv b136, iv (ofNat (ln + 1)), iv (1 : Int32), rv f29, rv f30, .unset, .unset, .unset, .unset, .unset, .unset] [(.ref f29), (.int (2 : Int32)), (.int (ofNat (ln + 1))), (.ref x318)])) rfl (B at_845).2 (n := 0) (by decide) (by decide) (by decide) (by decide)
    obtain ⟨a320, T320, h320, kk320, bb320, kb320, X320, e320, E320, hS320, hk320, hZ320, hown320, A320, Fc320, Fv320, V320, la320, lb320, CH320, L320, sf320, st320⟩ := zo
    replace la320 : (a320 : Nat) < Array.size h320 := la320
    have K320 : Keep h318 h320 [] := (Keep.refl _ _).ext E320
    have hS := hS320
    have hZ := hZ320
    have hown := hown320
    refine yD st320 ?_
    have zK320 := K320.1
    have CR321 := CR319.trans CH320
    have S320 : qQ Z h320 a320 ([] : List Int32) := o_litStr A320 Fc320 Fv320 V320 (by decide) (by decide) (by decide) (by decide)
    refine yD (fun _ z_ => XS.aconstNull X320.here hx rfl (B at_847).2 (yH X320 (B at_848) z_)) ?_
    have KK322 := yI (yF (Keep.refl hR154 [b136]) K318) K320
    have O323 : Old Z n0 h320 := O312.keep KK322 (allS (by omega) all0)
    have f324 := (RO318.keep K320 nin0)
    have f325 := (uX.keep0 FV318 K320)
    have f326 := (qT.keep0 FS318 K320)
    have f327 := (S29.keep KK322 (yB (by omega) nin0) (yB (by omega) nin0))
    refine uI (o_callSW X320 hx hZ (y := mN3) hown hS (by omega) (W 173) (W 174) (W 2) (W 175) (by decide) (uH (W := 0) (ckW hw x318 em s318 t318 0 rs318 ts318 [Lf, []] (ofNat (ln + 1)) fv318 (.ref f29) (.ref a320) .null O323 CS EM rfl rfl rfl FV318.ref (by rw [hrn318]; exact Nat.le_of_ble_eq_true rfl) f324 f325 f326 ⟨(fun _ => ⟨f29, rfl, (yU.str f327)⟩), (fun _ => ⟨a320, rfl, S320⟩), (fun h => absurd h (of_decide_eq_false rfl))⟩ (o_l162 hLl.1)) hZ (W 175) (W 2) (by decide) (by decide) hEL CR321.1) e320 (by decide) (by decide) rfl (hM rfl) (argsL := [(.ref x318), (.int (ofNat (ln + 1))), (.int (2 : Int32)), (.ref f29), (.ref a320), .null, (.int (0 : Int32))]) (rest := []) (lenOf pd78 rfl) rfl (by rw [hrn318]; rfl) (qE rfl rfl) (B at_849).2) ?_
    rintro T328 _ _ h328 X328 e328 ⟨rfl, N328q, K328⟩ hS328 hZ328 hown328 CH328
    have hS := hS328
    have hZ := hZ328
    have hown := hown328
    have zK328 := K328.1
    have CR329 := CR321.trans CH328
    have N328 := Fr.app N318 N328q
    refine yD (fun _ z_ => qM X328 (B at_852) rfl rfl (yT X328 854 902 rfl (B at_854) (by decide) z_)) ?_
    have KK330 := yI (yI (Keep.refl h318 []) K320) K328
    have f331 := (E318.keep KK330)
    have f332 := (Fa318.keep KK330 nin0)
    have f333 := (Fb318.keep KK330 nin0)
    have f334 := (Fc318.keep KK330 nin0)
    have KK335 := yI (yI (yF (Keep.refl hR154 [b136]) K318) K320) K328
    exact G155 _ _ _ _ _  KK335 f331 f332 f333 f334  hS (by omega) hZ hown CR329 (X328.more (by decide) (by decide)) e328 N328
  · refine yD (fun _ z_ => qG XG154 832 857 rfl (B at_832) rfl (feq c310).2 (by decide) (yJ XG154 (B at_857) rfl (yH XG154 (B at_859) z_))) ?_
    by_cases c336 : tk = (2 : Int32)
    · refine yD (fun _ z_ => qH XG154 (B at_860) rfl (teq c336).2 z_) ?_
      refine qO m 863 #[iv pk, iv pa, iv pb, iv pc, iv j11_s0, iv s1k, iv ek, iv q1k, iv j48_s0, iv tk, iv j72_s0, iv c1k, iv c2k, iv o1, iv j137_s0, iv j168_s0, iv j210_s0, iv j226_s0, iv j245_s0, iv j276_s0, iv rq, iv j299_s0, iv j313_s0, iv j352_s0, iv j405_s0, rv b116, rv b136, iv (ofNat (ln + 1)), iv (1 : Int32), rv f29, rv f30, .unset, .unset, .unset, .unset, .unset, .unset] [] ?_
      have hPB : uC tx 3 5 (ln + 1) 0 = ([Lf], 0, 12, (ln + 1 + if j210_s0 = 10 then 2 else 1)) := by
       rw [htx]
       rcases hB with ⟨b1, b2, b3, b4⟩ | ⟨b1, b2, b3, b4⟩ <;> subst b3 b4
       · exact (o_rB (ln + 1) hq1.1).2.1 b1 b2 (htk.elim (fun q => absurd q.1 c310) (fun q => q.elim (fun q => q.2.2) (fun q => absurd c336 q.2.1)))
       · exact (o_rB (ln + 1) hq1.1).2.2.2.2.1 b1 b2 (htk.elim (fun q => absurd q.1 c310) (fun q => q.elim (fun q => q.2.2) (fun q => absurd c336 q.2.1)))
      refine yD (fun _ z_ => qN XG154 (B at_863) rfl rfl z_) ?_
      have KK337 := yI (yF (yF (yF (Keep.refl h143 [b136]) K151) KR152) KR153) KR154
      have O338 : Old Z n0 hR154 := O145.keep KK337 (allS (by omega) all0)
      have f339 := (St144.keep KK337 (yB (by omega) nin0) (yB (by omega) nin0))
      have f340 := (Eb_.keep KR154)
      have f341 := (b0_.keep KR154 nin0)
      have f342 := (b1_.keep KR154 nin0)
      have f343 := (b2_.keep KR154 nin0)
      refine uI (o_callVW XG154 hx hZ (y := mN1) (z := mN1) hown hS (by omega) (W 75) (W 76) (notFace_of_selects (args := #[]) (mvT hZ (W 78))) (W 78) (W 77) (by decide) (uH (W := 0) (nxR hw b136 b137 tt143 D mr em bE tx 5 (ln + 1) [Lf] 0 12 (ln + 1 + if j210_s0 = 10 then 2 else 1) O338 CS FM FI UT DE MM EM E0 hk (by omega) (by omega) (by omega) (by omega) f340 f341 f342 f343 f339 (by omega) hneB hPB (by decide) (o_l161 hLl.1)) hZ (W 79) (W 7) (by decide) (by decide) hEL CR154.1) eG154 f340 (by decide) (by decide) rfl (hM rfl) (argsL := []) (rest := []) (lenOf pd77 rfl) rfl rfl (qE rfl rfl) (B at_865).2) ?_
      rintro T344 _ _ h344 X344 e344 ⟨N344q, K344, E344, Fa344, Fb344, Fc344, x344, s344, t344, rs344, ts344, fv344, rfl, RO344, FV344, FS344⟩ hS344 hZ344 hown344 CH344
      have hS := hS344
      have hZ := hZ344
      have hown := hown344
      have hrn344 := FS344.len.1
      have zK344 := K344.1
      have CR345 := CR154.trans CH344
      have N344 := Fr.app NG154 N344q
      refine yD (fun _ z_ => yJ X344 (B at_868) rfl (yH X344 (B at_870) (qN X344 (B at_871) rfl rfl (XS.aconstNull X344.here hx rfl (B at_873).2 (XS.aconstNull X344.here hx rfl (B at_874).2 (yH X344 (B at_875) z_)))))) ?_
      have O346 : Old Z n0 h344 := O338.keep K344 (allS (by omega) all0)
      have f347 := (S29.keep K344 (yB (by omega) nin0) (yB (by omega) nin0))
      refine uI (o_callSW X344 hx hZ (y := mN3) hown hS (by omega) (W 173) (W 174) (W 2) (W 175) (by decide) (uH (W := 0) (ckW hw x344 em s344 t344 0 rs344 ts344 [Lf] (ofNat (ln + 1)) fv344 (.ref f29) .null .null O346 CS EM rfl rfl rfl FV344.ref (by rw [hrn344]; exact Nat.le_of_ble_eq_true rfl) RO344 FV344 FS344 ⟨(fun _ => ⟨f29, rfl, (yU.str f347)⟩), (fun h => absurd h (of_decide_eq_false rfl)), (fun h => absurd h (of_decide_eq_false rfl))⟩ (o_l161 hLl.1)) hZ (W 175) (W 2) (by decide) (by decide) hEL CR345.1) e344 (by decide) (by decide) rfl (hM rfl) (argsL := [(.ref x344), (.int (ofNat (ln + 1))), (.int (1 : Int32)), (.ref f29), .null, .null, (.int (0 : Int32))]) (rest := []) (lenOf pd78 rfl) rfl (by rw [hrn344]; rfl) (qE rfl rfl) (B at_876).2) ?_
      rintro T348 _ _ h348 X348 e348 ⟨rfl, N348q, K348⟩ hS348 hZ348 hown348 CH348
      have hS := hS348
      have hZ := hZ348
      have hown := hown348
      have zK348 := K348.1
      have CR349 := CR345.trans CH348
      have N348 := Fr.app N344 N348q
      refine yD (fun _ z_ => qM X348 (B at_879) rfl rfl (yT X348 881 902 rfl (B at_881) (by decide) z_)) ?_
      have f350 := (E344.keep K348)
      have f351 := (Fa344.keep K348 nin0)
      have f352 := (Fb344.keep K348 nin0)
      have f353 := (Fc344.keep K348 nin0)
      have KK354 := yI (yF (Keep.refl hR154 [b136]) K344) K348
      exact G155 _ _ _ _ _  KK354 f350 f351 f352 f353  hS (by omega) hZ hown CR349 (X348.more (by decide) (by decide)) e348 N348
    · refine yD (fun _ z_ => qG XG154 860 884 rfl (B at_860) rfl (feq c336).2 (by decide) z_) ?_
      refine qO m 884 #[iv pk, iv pa, iv pb, iv pc, iv j11_s0, iv s1k, iv ek, iv q1k, iv j48_s0, iv tk, iv j72_s0, iv c1k, iv c2k, iv o1, iv j137_s0, iv j168_s0, iv j210_s0, iv j226_s0, iv j245_s0, iv j276_s0, iv rq, iv j299_s0, iv j313_s0, iv j352_s0, iv j405_s0, rv b116, rv b136, iv (ofNat (ln + 1)), iv (1 : Int32), rv f29, rv f30, .unset, .unset, .unset, .unset, .unset, .unset] [] ?_
      have hPB : uC tx 3 5 (ln + 1) 0 = ([Lg], 1, 12, (ln + 1 + if j210_s0 = 10 then 2 else 1)) := by
       rw [htx]
       rcases hB with ⟨b1, b2, b3, b4⟩ | ⟨b1, b2, b3, b4⟩ <;> subst b3 b4
       · exact (o_rB (ln + 1) hq1.1).2.2.1 b1 b2 (htk.elim (fun q => absurd q.1 c310) (fun q => q.elim (fun q => absurd q.2.1 c336) (fun q => q.2.2)))
       · exact (o_rB (ln + 1) hq1.1).2.2.2.2.2 b1 b2 (htk.elim (fun q => absurd q.1 c310) (fun q => q.elim (fun q => absurd q.2.1 c336) (fun q => q.2.2)))
      refine yD (fun _ z_ => qN XG154 (B at_884) rfl rfl z_) ?_
      have KK355 := yI (yF (yF (yF (Keep.refl h143 [b136]) K151) KR152) KR153) KR154
      have O356 : Old Z n0 hR154 := O145.keep KK355 (allS (by omega) all0)
      have f357 := (St144.keep KK355 (yB (by omega) nin0) (yB (by omega) nin0))
      have f358 := (Eb_.keep KR154)
      have f359 := (b0_.keep KR154 nin0)
      have f360 := (b1_.keep KR154 nin0)
      have f361 := (b2_.keep KR154 nin0)
      refine uI (o_callVW XG154 hx hZ (y := mN1) (z := mN1) hown hS (by omega) (W 75) (W 76) (notFace_of_selects (args := #[]) (mvT hZ (W 78))) (W 78) (W 77) (by decide) (uH (W := 0) (nxR hw b136 b137 tt143 D mr em bE tx 5 (ln + 1) [Lg] 1 12 (ln + 1 + if j210_s0 = 10 then 2 else 1) O356 CS FM FI UT DE MM EM E0 hk (by omega) (by omega) (by omega) (by omega) f358 f359 f360 f361 f357 (by omega) hneB hPB (by decide) (o_l161 hLl.2)) hZ (W 79) (W 7) (by decide) (by decide) hEL CR154.1) eG154 f358 (by decide) (by decide) rfl (hM rfl) (argsL := []) (rest := []) (lenOf pd77 rfl) rfl rfl (qE rfl rfl) (B at_886).2) ?_
      rintro T362 _ _ h362 X362 e362 ⟨N362q, K362, E362, Fa362, Fb362, Fc362, x362, s362, t362, rs362, ts362, fv362, rfl, RO362, FV362, FS362⟩ hS362 hZ362 hown362 CH362
      have hS := hS362
      have hZ := hZ362
      have hown := hown362
      have hrn362 := FS362.len.1
      have zK362 := K362.1
      have CR363 := CR154.trans CH362
      have N362 := Fr.app NG154 N362q
      refine yD (fun _ z_ => yJ X362 (B at_889) rfl (yH X362 (B at_891) (qN X362 (B at_892) rfl rfl (XS.aconstNull X362.here hx rfl (B at_894).2 (XS.aconstNull X362.here hx rfl (B at_895).2 (yH X362 (B at_896) z_)))))) ?_
      have O364 : Old Z n0 h362 := O356.keep K362 (allS (by omega) all0)
      have f365 := (S30.keep K362 (yB (by omega) nin0) (yB (by omega) nin0))
      refine uI (o_callSW X362 hx hZ (y := mN3) hown hS (by omega) (W 173) (W 174) (W 2) (W 175) (by decide) (uH (W := 0) (ckW hw x362 em s362 t362 1 rs362 ts362 [Lg] (ofNat (ln + 1)) fv362 (.ref f30) .null .null O364 CS EM rfl rfl rfl FV362.ref (by rw [hrn362]; exact Nat.le_of_ble_eq_true rfl) RO362 FV362 FS362 ⟨(fun _ => ⟨f30, rfl, (yU.str f365)⟩), (fun h => absurd h (of_decide_eq_false rfl)), (fun h => absurd h (of_decide_eq_false rfl))⟩ (o_l161 hLl.2)) hZ (W 175) (W 2) (by decide) (by decide) hEL CR363.1) e362 (by decide) (by decide) rfl (hM rfl) (argsL := [(.ref x362), (.int (ofNat (ln + 1))), (.int (1 : Int32)), (.ref f30), .null, .null, (.int (1 : Int32))]) (rest := []) (lenOf pd78 rfl) rfl (by rw [hrn362]; rfl) (qE rfl rfl) (B at_897).2) ?_
      rintro T366 _ _ h366 X366 e366 ⟨rfl, N366q, K366⟩ hS366 hZ366 hown366 CH366
      have hS := hS366
      have hZ := hZ366
      have hown := hown366
      have zK366 := K366.1
      have CR367 := CR363.trans CH366
      have N366 := Fr.app N362 N366q
      refine yD (fun _ z_ => qM X366 (B at_900) rfl rfl z_) ?_
      have f368 := (E362.keep K366)
      have f369 := (Fa362.keep K366 nin0)
      have f370 := (Fb362.keep K366 nin0)
      have f371 := (Fc362.keep K366 nin0)
      have KK372 := yI (yF (Keep.refl hR154 [b136]) K362) K366
      exact G155 _ _ _ _ _  KK372 f368 f369 f370 f371  hS (by omega) hZ hown CR367 (X366.more (by decide) (by decide)) e366 N366
 intro TG155 LG155 hR155 vmR155 kR155  KR155 Ec_ c0_ c1_ c2_ hS hkR155 hZ hown CR155 XG155 eG155 NG155
 have zKR155 := KR155.1
 refine yD (fun _ z_ => yJ XG155 (B at_902) rfl (qF XG155 904 909 rfl (B at_904) rfl ((if0 _ _).trans (feq (by decide)).2) (by decide) (yJ XG155 (B at_909) rfl (yJ XG155 (B at_911) rfl (yH XG155 (B at_913) z_))))) ?_
 suffices J922 : ∀ (Tj : State) (Lj : List Loc) (j922_s0 : Int32), Stand p l e room_1 (s.setVm vmR155) m #[(.int pk), (.int pa), (.int pb), (.int pc)] below meth c Tj Lj 96 3221 → Tj.heap = hR155 → Fr n0 Lj → ((q1k = (2 : Int32) ∧ j922_s0 = (2 : Int32)) ∨ (¬ (q1k = (2 : Int32)) ∧ j922_s0 = (1 : Int32))) → qV p e below s Z h0 (fun v h L => v = some (.int 1) ∧ Fr n0 L) room_1.cells room_1.slots (Tj.setTop (mkF m 922 #[iv pk, iv pa, iv pb, iv pc, iv j11_s0, iv s1k, iv ek, iv q1k, iv j48_s0, iv tk, iv j72_s0, iv c1k, iv c2k, iv o1, iv j137_s0, iv j168_s0, iv j210_s0, iv j226_s0, iv j245_s0, iv j276_s0, iv rq, iv j299_s0, iv j313_s0, iv j352_s0, iv j405_s0, rv b116, rv b136, iv (ofNat (ln + 1)), iv (1 : Int32), rv f29, rv f30, iv (1 : Int32), .unset, .unset, .unset, .unset, .unset] [(.int j922_s0), (.int (ofNat (ln + 1)))])) by
  by_cases c309 : q1k = (2 : Int32)
  · refine yD (fun _ z_ => qH XG155 (B at_914) rfl (teq c309).2 (yH XG155 (B at_917) (yT XG155 918 922 rfl (B at_918) (by decide) z_))) ?_
    exact J922 _ _ _ XG155 eG155 NG155 (Or.inl ⟨c309, rfl⟩)
  · refine yD (fun _ z_ => qG XG155 914 921 rfl (B at_914) rfl (feq c309).2 (by decide) (yH XG155 (B at_921) z_)) ?_
    exact J922 _ _ _ XG155 eG155 NG155 (Or.inr ⟨c309, rfl⟩)
 intro TJ156 LJ156 j922_s0 XJ156 eJ156 NJ156 hJ922
 have hj9 : ofNat (ln + 1) + j922_s0 = ofNat (ln + 1 + if j210_s0 = 10 then 2 else 1) := by
  rcases hJ922 with ⟨r, rfl⟩ | ⟨r, rfl⟩
  · rw [if_pos (hq1.2.mp r)]; exact uD (b := 2) (by omega)
  · rw [if_neg (fun q => r (hq1.2.mpr q))]; exact uD (b := 1) (by omega)
 refine yD (fun _ z_ => XS.iadd XJ156.here hx rfl (B at_922).2 rfl z_) ?_
 refine qO m 923 #[iv pk, iv pa, iv pb, iv pc, iv j11_s0, iv s1k, iv ek, iv q1k, iv j48_s0, iv tk, iv j72_s0, iv c1k, iv c2k, iv o1, iv j137_s0, iv j168_s0, iv j210_s0, iv j226_s0, iv j245_s0, iv j276_s0, iv rq, iv j299_s0, iv j313_s0, iv j352_s0, iv j405_s0, rv b116, rv b136, iv (ofNat (ln + 1)), iv (1 : Int32), rv f29, rv f30, iv (1 : Int32), .unset, .unset, .unset, .unset, .unset] [(.int ((ofNat (ln + 1)) + j922_s0))] ?_
 rw [show ((ofNat (ln + 1)) + j922_s0) = (ofNat (ln + 1 + if j210_s0 = 10 then 2 else 1)) from hj9]
 refine yD (fun _ z_ => qM XJ156 (B at_923) rfl rfl z_) ?_
 have zo : ∃ z, (ln + 1 + if j210_s0 = 10 then 2 else 1) = z := ⟨_, rfl⟩
 obtain ⟨lb, hlb⟩ := zo
 have hlb2 : lb ≤ 5 := by rw [← hlb]; split <;> omega
 rw [hlb]
 refine qO m 925 #[iv pk, iv pa, iv pb, iv pc, iv j11_s0, iv s1k, iv ek, iv q1k, iv j48_s0, iv tk, iv j72_s0, iv c1k, iv c2k, iv o1, iv j137_s0, iv j168_s0, iv j210_s0, iv j226_s0, iv j245_s0, iv j276_s0, iv rq, iv j299_s0, iv j313_s0, iv j352_s0, iv j405_s0, rv b116, rv b136, iv (ofNat lb), iv (1 : Int32), rv f29, rv f30, iv (1 : Int32), .unset, .unset, .unset, .unset, .unset] [] ?_
 have F157 := c2_
 rw [hlb] at F157
 suffices G158 : ∀ (Tj : State) (Lj : List Loc) (hR158 : Heap) (vmR158 : Vm) (kR158 : Nat) (a4 l4 : Nat), (Keep hR155 hR158 [b136]) → (Exa Z hR158 b136 sN1) → (Fld Z hR158 b136 sN1 "m_text" sN9 (.ref b137)) → (Fld Z hR158 b136 sN1 "m_at" "I" (.int (ofNat a4))) → (Fld Z hR158 b136 sN1 "m_line" "I" (.int (ofNat l4))) → ((j72_s0 = 0 ∧ a4 = 12) ∨ (¬ j72_s0 = 0 ∧ a4 = 14)) → (l4 ≤ 6) → (s.Since vmR158 kR158) → (kR158 ≤ Array.size hR158) → (Z.Warmed39 (s.setVm vmR158).vm) → ((s.setVm vmR158).vm.findClass sN10 = some m.cls) → (CHr Z uO s.vm h0 vmR158 hR158) → Stand p l e room_1 (s.setVm vmR158) m #[(.int pk), (.int pa), (.int pb), (.int pc)] below meth c Tj Lj 103 3342 → Tj.heap = hR158 → Fr n0 Lj → qV p e below s Z h0 (fun v h L => v = some (.int 1) ∧ Fr n0 L) room_1.cells room_1.slots (Tj.setTop (mkF m 956 #[iv pk, iv pa, iv pb, iv pc, iv j11_s0, iv s1k, iv ek, iv q1k, iv j48_s0, iv tk, iv j72_s0, iv c1k, iv c2k, iv o1, iv j137_s0, iv j168_s0, iv j210_s0, iv j226_s0, iv j245_s0, iv j276_s0, iv rq, iv j299_s0, iv j313_s0, iv j352_s0, iv j405_s0, rv b116, rv b136, iv (ofNat l4), iv (1 : Int32), rv f29, rv f30, iv (1 : Int32), .unset, .unset, .unset, .unset, .unset] [])) by
  refine yD (fun _ z_ => yJ XJ156 (B at_925) rfl z_) ?_
  by_cases c295 : j72_s0 = (0 : Int32)
  · refine yD (fun _ z_ => qF XJ156 927 956 rfl (B at_927) rfl ((if0 _ _).trans (teq c295).1) (by decide) z_) ?_
    exact G158 _ _ _ _ _ 12 lb (o_keepW (Keep.refl hR155 []) (by simp)) Ec_ c0_ c1_ F157 (Or.inl ⟨c295, rfl⟩) (by omega) hS (by omega) hZ hown CR155 (XJ156.more (by decide) (by decide)) eJ156 NJ156
  · refine yD (fun _ z_ => qA XJ156 (B at_927) rfl ((if0 _ _).trans (feq c295).1) z_) ?_
    have hrr2 : j299_s0 = 13 ∧ j313_s0 = 10 := hrr.elim (fun q => absurd q.1 c295) (fun q => q.2)
    have hat13 : qX tx 12 13 := ⟨by omega, by rw [htx]; exact hrr2.1.symm⟩
    have hel12 : qR tx 12 := Or.inr ⟨hat13, by omega, by rw [htx]; exact hrr2.2.symm⟩
    refine yD (fun _ z_ => qN XJ156 (B at_930) rfl rfl z_) ?_
    refine qO m 932 #[iv pk, iv pa, iv pb, iv pc, iv j11_s0, iv s1k, iv ek, iv q1k, iv j48_s0, iv tk, iv j72_s0, iv c1k, iv c2k, iv o1, iv j137_s0, iv j168_s0, iv j210_s0, iv j226_s0, iv j245_s0, iv j276_s0, iv rq, iv j299_s0, iv j313_s0, iv j352_s0, iv j405_s0, rv b116, rv b136, iv (ofNat lb), iv (1 : Int32), rv f29, rv f30, iv (1 : Int32), .unset, .unset, .unset, .unset, .unset] [(.ref b136)] ?_
    have KK296 := yF (yI (yF (yF (yF (Keep.refl h143 [b136]) K151) KR152) KR153) KR154) KR155
    have O297 : Old Z n0 hR155 := O145.keep KK296 (allS (by omega) all0)
    have f298 := (St144.keep KK296 (yB (by omega) nin0) (yB (by omega) nin0))
    refine qI (qZ XJ156 hZ (y := mN1) hown (W 75) (W 76) (W 78) (W 77) (W 79) (W 7) 0 (nxE hw b136 b137 tt143 D mr em bE tx 12 lb O297 CS FM FI UT DE MM EM E0 hk (by omega) (by omega) (by omega) (by omega) Ec_ c0_ c1_ F157 f298 (by omega) hel12) eJ156 Ec_ (by decide) rfl (hM rfl) [] (rest := []) pd77 rfl rfl rfl rfl rfl (B at_932)) ?_
    rintro T299 _ _ h299 X299 e299 ⟨N299q, K299, E299, Fa299, Fb299, Fc299, x299, rfl, RO299⟩
    have zK299 := K299.1
    have N299 := Fr.app NJ156 N299q
    refine yD (fun _ z_ => yJ X299 (B at_935) rfl (yH X299 (B at_937) (XS.aconstNull X299.here hx rfl (B at_938).2 (XS.aconstNull X299.here hx rfl (B at_939).2 (XS.aconstNull X299.here hx rfl (B at_940).2 (yH X299 (B at_941) z_)))))) ?_
    have O300 : Old Z n0 h299 := O297.keep K299 (allS (by omega) all0)
    have CR302 := CR155.trans (CHr.keep K299 (allS (Safe.exa hZ.alike Ec_ (by decide) (by decide)) all0) CR155.1)
    refine uI (o_callSW X299 hx hZ (y := mN3) hown hS (by omega) (W 173) (W 174) (W 2) (W 175) (by decide) (uH (W := 0) (ckW hw x299 em 0 0 0 [] [] [] (ofNat lb) .null .null .null .null O300 CS EM rfl rfl rfl rfl (by decide) RO299 (Or.inl ⟨rfl, rfl⟩) trivial ⟨(fun h => absurd h (of_decide_eq_false rfl)), (fun h => absurd h (of_decide_eq_false rfl)), (fun h => absurd h (of_decide_eq_false rfl))⟩ (fun f hf => nomatch hf)) hZ (W 175) (W 2) (by decide) (by decide) hEL CR302.1) e299 (by decide) (by decide) rfl (hM rfl) (argsL := [(.ref x299), (.int (ofNat lb)), (.int (0 : Int32)), .null, .null, .null, (.int (0 : Int32))]) (rest := []) (lenOf pd78 rfl) rfl rfl (qE rfl rfl) (B at_942).2) ?_
    rintro T301 _ _ h301 X301 e301 ⟨rfl, N301q, K301⟩ hS301 hZ301 hown301 CH301
    have hS := hS301
    have hZ := hZ301
    have hown := hown301
    have zK301 := K301.1
    have CR303 := CR302.trans CH301
    have N301 := Fr.app N299 N301q
    refine yD (fun _ z_ => qF X301 945 950 rfl (B at_945) rfl ((if0 _ _).trans (feq (by decide)).2) (by decide) (yJ X301 (B at_950) rfl (yH X301 (B at_952) (XS.iadd X301.here hx rfl (B at_953).2 rfl z_)))) ?_
    refine qO m 954 #[iv pk, iv pa, iv pb, iv pc, iv j11_s0, iv s1k, iv ek, iv q1k, iv j48_s0, iv tk, iv j72_s0, iv c1k, iv c2k, iv o1, iv j137_s0, iv j168_s0, iv j210_s0, iv j226_s0, iv j245_s0, iv j276_s0, iv rq, iv j299_s0, iv j313_s0, iv j352_s0, iv j405_s0, rv b116, rv b136, iv (ofNat lb), iv (1 : Int32), rv f29, rv f30, iv (1 : Int32), .unset, .unset, .unset, .unset, .unset] [(.int ((ofNat lb) + (1 : Int32)))] ?_
    rw [show ((ofNat lb) + (1 : Int32)) = (ofNat (lb + 1)) from (uD (b := 1) (by omega))]
    refine yD (fun _ z_ => qM X301 (B at_954) rfl rfl z_) ?_
    have f304 := (E299.keep K301)
    have f305 := (Fa299.keep K301 nin0)
    have f306 := (Fb299.keep K301 nin0)
    have f307 := (Fc299.keep K301 nin0)
    have KK308 := yI (yF (Keep.refl hR155 [b136]) K299) K301
    exact G158 _ _ _ _ _ 14 (lb + 1) KK308 f304 f305 (by have q := f306; rw [if_pos hat13] at q; exact q) f307 (Or.inr ⟨c295, rfl⟩) (by omega) hS (by omega) hZ hown CR303 (X301.more (by decide) (by decide)) e301 N301
 intro TG158 LG158 hR158 vmR158 kR158 a4 l4 KR158 Ed_ d0_ d1_ d2_ hA4 hl4 hS hkR158 hZ hown CR158 XG158 eG158 NG158
 have zKR158 := KR158.1
 suffices G159 : ∀ (Tj : State) (Lj : List Loc) (hR159 : Heap) (vmR159 : Vm) (kR159 : Nat) (f32 t32 fl : Nat) (ex : Int32) (Lc : List Int32), (Keep hR158 hR159 []) → (yU Z hR159 f32 t32 Lc) → (Array.size hR158 ≤ f32 ∧ Array.size hR158 ≤ t32) → ((j405_s0 = 34 ∧ Lc = [j352_s0, 34] ∧ ex = 0 ∧ fl = 2) ∨ (j405_s0 = 44 ∧ Lc = [j352_s0] ∧ ex = 1 ∧ fl = 0) ∨ (j405_s0 = 10 ∧ Lc = [j352_s0] ∧ ex = 0 ∧ fl = 0) ∨ (j405_s0 = 13 ∧ Lc = [j352_s0, 13] ∧ ex = 0 ∧ fl = 1) ∨ (uS j405_s0 ∧ Lc = [j352_s0, j405_s0] ∧ ex = 0 ∧ fl = 1)) → (s.Since vmR159 kR159) → (kR159 ≤ Array.size hR159) → (Z.Warmed39 (s.setVm vmR159).vm) → ((s.setVm vmR159).vm.findClass sN10 = some m.cls) → (CHr Z uO s.vm h0 vmR159 hR159) → Stand p l e room_1 (s.setVm vmR159) m #[(.int pk), (.int pa), (.int pb), (.int pc)] below meth c Tj Lj 107 3408 → Tj.heap = hR159 → Fr n0 Lj → qV p e below s Z h0 (fun v h L => v = some (.int 1) ∧ Fr n0 L) room_1.cells room_1.slots (Tj.setTop (mkF m 1054 #[iv pk, iv pa, iv pb, iv pc, iv j11_s0, iv s1k, iv ek, iv q1k, iv j48_s0, iv tk, iv j72_s0, iv c1k, iv c2k, iv o1, iv j137_s0, iv j168_s0, iv j210_s0, iv j226_s0, iv j245_s0, iv j276_s0, iv rq, iv j299_s0, iv j313_s0, iv j352_s0, iv j405_s0, rv b116, rv b136, iv (ofNat l4), iv (1 : Int32), rv f29, rv f30, iv (1 : Int32), rv f32, iv ex, iv (ofNat fl), .unset, .unset] [])) by
  refine yD (fun _ z_ => yH XG158 (B at_956) (qM XG158 (B at_957) rfl rfl (yJ XG158 (B at_959) rfl (yH XG158 (B at_961) z_)))) ?_
  by_cases c271 : c2k = (4 : Int32)
  · refine yD (fun _ z_ => qH XG158 (B at_962) rfl (teq c271).2 (yJ XG158 (B at_965) rfl (yY XG158 (B at_967) z_))) ?_
    have KK272 := yF (yF (yI (yF (yF (yF (Keep.refl h143 [b136]) K151) KR152) KR153) KR154) KR155) KR158
    have O273 : Old Z n0 hR158 := O145.keep KK272 (allS (by omega) all0)
    refine qI (qD XG158 hZ (y := mN15) hown (W 448) (W 449) (W 2) (W 450) 0 (s2W hw j352_s0 (34 : Int32) O273 CS UT (o_4c hc1) ⟨by decide, by decide⟩) eG158 (by decide) rfl (hM rfl) [(.int j352_s0), (.int (34 : Int32))] (rest := []) pd79 rfl rfl rfl rfl rfl (B at_969)) ?_
    rintro T274 _ _ h274 X274 e274 ⟨N274q, b274, t274, rfl, K274, zb274, zt274, S274⟩
    have zK274 := K274.1
    have N274 := Fr.app NG158 N274q
    have E274 := S274.1
    have ls274 := S274.lt
    refine yD (fun _ z_ => XS.astore X274.here hx rfl (B at_972).2 rfl rfl rfl (yH X274 (B at_974) (qM X274 (B at_975) rfl rfl (yT X274 977 1054 rfl (B at_977) (by decide) z_)))) ?_
    suffices hCx : (j405_s0 = 34 ∧ [j352_s0, (34 : Int32)] = [j352_s0, 34] ∧ (0 : Int32) = 0 ∧ 2 = 2) ∨ (j405_s0 = 44 ∧ [j352_s0, (34 : Int32)] = [j352_s0] ∧ (0 : Int32) = 1 ∧ 2 = 0) ∨ (j405_s0 = 10 ∧ [j352_s0, (34 : Int32)] = [j352_s0] ∧ (0 : Int32) = 0 ∧ 2 = 0) ∨ (j405_s0 = 13 ∧ [j352_s0, (34 : Int32)] = [j352_s0, 13] ∧ (0 : Int32) = 0 ∧ 2 = 1) ∨ (uS j405_s0 ∧ [j352_s0, (34 : Int32)] = [j352_s0, j405_s0] ∧ (0 : Int32) = 0 ∧ 2 = 1) by
     have CR275 := CR158.trans (CHr.keep K274 all0 CR158.1)
     exact G159 _ _ _ _ _ b274 t274 2 (0 : Int32) _ K274 S274 (by omega) hCx hS (by omega) hZ hown CR275 (X274.more (by decide) (by decide)) e274 N274
    rcases hc2 with q | q | q | q | q
    · exact Or.inl ⟨q.2, rfl, rfl, rfl⟩
    · exact absurd c271 q.1
    · exact absurd c271 q.1
    · exact absurd c271 q.1
    · exact absurd c271 q.1
  · refine yD (fun _ z_ => qG XG158 962 980 rfl (B at_962) rfl (feq c271).2 (by decide) (yJ XG158 (B at_980) rfl (yH XG158 (B at_982) z_))) ?_
    by_cases c276 : c2k = (1 : Int32)
    · refine yD (fun _ z_ => qH XG158 (B at_983) rfl (teq c276).2 (yJ XG158 (B at_986) rfl z_)) ?_
      have KK277 := yF (yF (yI (yF (yF (yF (Keep.refl h143 [b136]) K151) KR152) KR153) KR154) KR155) KR158
      have O278 : Old Z n0 hR158 := O145.keep KK277 (allS (by omega) all0)
      refine qI (qD XG158 hZ (y := mN11) hown (W 454) (W 455) (W 2) (W 456) 0 (s1W hw j352_s0 O278 CS UT (o_4c hc1)) eG158 (by decide) rfl (hM rfl) [(.int j352_s0)] (rest := []) pd73 rfl rfl rfl rfl rfl (B at_988)) ?_
      rintro T279 _ _ h279 X279 e279 ⟨N279q, b279, t279, rfl, K279, zb279, zt279, S279⟩
      have zK279 := K279.1
      have N279 := Fr.app NG158 N279q
      have E279 := S279.1
      have ls279 := S279.lt
      refine yD (fun _ z_ => XS.astore X279.here hx rfl (B at_991).2 rfl rfl rfl (yH X279 (B at_993) (qM X279 (B at_994) rfl rfl (yH X279 (B at_996) (qM X279 (B at_997) rfl rfl (yT X279 999 1054 rfl (B at_999) (by decide) z_)))))) ?_
      suffices hCx : (j405_s0 = 34 ∧ [j352_s0] = [j352_s0, 34] ∧ (1 : Int32) = 0 ∧ 0 = 2) ∨ (j405_s0 = 44 ∧ [j352_s0] = [j352_s0] ∧ (1 : Int32) = 1 ∧ 0 = 0) ∨ (j405_s0 = 10 ∧ [j352_s0] = [j352_s0] ∧ (1 : Int32) = 0 ∧ 0 = 0) ∨ (j405_s0 = 13 ∧ [j352_s0] = [j352_s0, 13] ∧ (1 : Int32) = 0 ∧ 0 = 1) ∨ (uS j405_s0 ∧ [j352_s0] = [j352_s0, j405_s0] ∧ (1 : Int32) = 0 ∧ 0 = 1) by
       have CR280 := CR158.trans (CHr.keep K279 all0 CR158.1)
       exact G159 _ _ _ _ _ b279 t279 0 (1 : Int32) _ K279 S279 (by omega) hCx hS (by omega) hZ hown CR280 (X279.more (by decide) (by decide)) e279 N279
      rcases hc2 with q | q | q | q | q
      · exact absurd q.1 c271
      · exact Or.inr (Or.inl ⟨q.2.2, rfl, rfl, rfl⟩)
      · exact absurd c276 q.2.1
      · exact absurd c276 q.2.1
      · exact absurd c276 q.2.1
    · refine yD (fun _ z_ => qG XG158 983 1002 rfl (B at_983) rfl (feq c276).2 (by decide) (yJ XG158 (B at_1002) rfl (yH XG158 (B at_1004) z_))) ?_
      by_cases c281 : c2k = (2 : Int32)
      · refine yD (fun _ z_ => qH XG158 (B at_1005) rfl (teq c281).2 (yJ XG158 (B at_1008) rfl z_)) ?_
        refine qO m 1010 #[iv pk, iv pa, iv pb, iv pc, iv j11_s0, iv s1k, iv ek, iv q1k, iv j48_s0, iv tk, iv j72_s0, iv c1k, iv c2k, iv o1, iv j137_s0, iv j168_s0, iv j210_s0, iv j226_s0, iv j245_s0, iv j276_s0, iv rq, iv j299_s0, iv j313_s0, iv j352_s0, iv j405_s0, rv b116, rv b136, iv (ofNat l4), iv (1 : Int32), rv f29, rv f30, iv (1 : Int32), .unset, iv (0 : Int32), .unset, .unset, .unset] [(.int j352_s0)] ?_
        have KK282 := yF (yF (yI (yF (yF (yF (Keep.refl h143 [b136]) K151) KR152) KR153) KR154) KR155) KR158
        have O283 : Old Z n0 hR158 := O145.keep KK282 (allS (by omega) all0)
        refine qI (qD XG158 hZ (y := mN11) hown (W 454) (W 455) (W 2) (W 456) 0 (s1W hw j352_s0 O283 CS UT (o_4c hc1)) eG158 (by decide) rfl (hM rfl) [(.int j352_s0)] (rest := []) pd73 rfl rfl rfl rfl rfl (B at_1010)) ?_
        rintro T284 _ _ h284 X284 e284 ⟨N284q, b284, t284, rfl, K284, zb284, zt284, S284⟩
        have zK284 := K284.1
        have N284 := Fr.app NG158 N284q
        have E284 := S284.1
        have ls284 := S284.lt
        refine yD (fun _ z_ => XS.astore X284.here hx rfl (B at_1013).2 rfl rfl rfl (yH X284 (B at_1015) (qM X284 (B at_1016) rfl rfl (yT X284 1018 1054 rfl (B at_1018) (by decide) z_)))) ?_
        suffices hCx : (j405_s0 = 34 ∧ [j352_s0] = [j352_s0, 34] ∧ (0 : Int32) = 0 ∧ 0 = 2) ∨ (j405_s0 = 44 ∧ [j352_s0] = [j352_s0] ∧ (0 : Int32) = 1 ∧ 0 = 0) ∨ (j405_s0 = 10 ∧ [j352_s0] = [j352_s0] ∧ (0 : Int32) = 0 ∧ 0 = 0) ∨ (j405_s0 = 13 ∧ [j352_s0] = [j352_s0, 13] ∧ (0 : Int32) = 0 ∧ 0 = 1) ∨ (uS j405_s0 ∧ [j352_s0] = [j352_s0, j405_s0] ∧ (0 : Int32) = 0 ∧ 0 = 1) by
         have CR285 := CR158.trans (CHr.keep K284 all0 CR158.1)
         exact G159 _ _ _ _ _ b284 t284 0 (0 : Int32) _ K284 S284 (by omega) hCx hS (by omega) hZ hown CR285 (X284.more (by decide) (by decide)) e284 N284
        rcases hc2 with q | q | q | q | q
        · exact absurd q.1 c271
        · exact absurd q.2.1 c276
        · exact Or.inr (Or.inr (Or.inl ⟨q.2.2.2, rfl, rfl, rfl⟩))
        · exact absurd c281 q.2.2.1
        · exact absurd c281 q.2.2.1
      · refine yD (fun _ z_ => qG XG158 1005 1021 rfl (B at_1005) rfl (feq c281).2 (by decide) (yJ XG158 (B at_1021) rfl (yH XG158 (B at_1023) z_))) ?_
        by_cases c286 : c2k = (3 : Int32)
        · refine yD (fun _ z_ => qH XG158 (B at_1024) rfl (teq c286).2 (yJ XG158 (B at_1027) rfl (yY XG158 (B at_1029) z_))) ?_
          have KK287 := yF (yF (yI (yF (yF (yF (Keep.refl h143 [b136]) K151) KR152) KR153) KR154) KR155) KR158
          have O288 : Old Z n0 hR158 := O145.keep KK287 (allS (by omega) all0)
          refine qI (qD XG158 hZ (y := mN15) hown (W 448) (W 449) (W 2) (W 450) 0 (s2W hw j352_s0 (13 : Int32) O288 CS UT (o_4c hc1) ⟨by decide, by decide⟩) eG158 (by decide) rfl (hM rfl) [(.int j352_s0), (.int (13 : Int32))] (rest := []) pd79 rfl rfl rfl rfl rfl (B at_1031)) ?_
          rintro T289 _ _ h289 X289 e289 ⟨N289q, b289, t289, rfl, K289, zb289, zt289, S289⟩
          have zK289 := K289.1
          have N289 := Fr.app NG158 N289q
          have E289 := S289.1
          have ls289 := S289.lt
          refine yD (fun _ z_ => XS.astore X289.here hx rfl (B at_1034).2 rfl rfl rfl (yH X289 (B at_1036) (qM X289 (B at_1037) rfl rfl (yT X289 1039 1054 rfl (B at_1039) (by decide) z_)))) ?_
          suffices hCx : (j405_s0 = 34 ∧ [j352_s0, (13 : Int32)] = [j352_s0, 34] ∧ (0 : Int32) = 0 ∧ 1 = 2) ∨ (j405_s0 = 44 ∧ [j352_s0, (13 : Int32)] = [j352_s0] ∧ (0 : Int32) = 1 ∧ 1 = 0) ∨ (j405_s0 = 10 ∧ [j352_s0, (13 : Int32)] = [j352_s0] ∧ (0 : Int32) = 0 ∧ 1 = 0) ∨ (j405_s0 = 13 ∧ [j352_s0, (13 : Int32)] = [j352_s0, 13] ∧ (0 : Int32) = 0 ∧ 1 = 1) ∨ (uS j405_s0 ∧ [j352_s0, (13 : Int32)] = [j352_s0, j405_s0] ∧ (0 : Int32) = 0 ∧ 1 = 1) by
           have CR290 := CR158.trans (CHr.keep K289 all0 CR158.1)
           exact G159 _ _ _ _ _ b289 t289 1 (0 : Int32) _ K289 S289 (by omega) hCx hS (by omega) hZ hown CR290 (X289.more (by decide) (by decide)) e289 N289
          rcases hc2 with q | q | q | q | q
          · exact absurd q.1 c271
          · exact absurd q.2.1 c276
          · exact absurd q.2.2.1 c281
          · exact Or.inr (Or.inr (Or.inr (Or.inl ⟨q.2.2.2.2, rfl, rfl, rfl⟩)))
          · exact absurd c286 q.2.2.2.1
        · refine yD (fun _ z_ => qG XG158 1024 1042 rfl (B at_1024) rfl (feq c286).2 (by decide) (yJ XG158 (B at_1042) rfl (yJ XG158 (B at_1044) rfl z_))) ?_
          have KK291 := yF (yF (yI (yF (yF (yF (Keep.refl h143 [b136]) K151) KR152) KR153) KR154) KR155) KR158
          have O292 : Old Z n0 hR158 := O145.keep KK291 (allS (by omega) all0)
          refine qI (qD XG158 hZ (y := mN15) hown (W 448) (W 449) (W 2) (W 450) 0 (s2W hw j352_s0 j405_s0 O292 CS UT (o_4c hc1) k11) eG158 (by decide) rfl (hM rfl) [(.int j352_s0), (.int j405_s0)] (rest := []) pd79 rfl rfl rfl rfl rfl (B at_1046)) ?_
          rintro T293 _ _ h293 X293 e293 ⟨N293q, b293, t293, rfl, K293, zb293, zt293, S293⟩
          have zK293 := K293.1
          have N293 := Fr.app NG158 N293q
          have E293 := S293.1
          have ls293 := S293.lt
          refine yD (fun _ z_ => XS.astore X293.here hx rfl (B at_1049).2 rfl rfl rfl (yH X293 (B at_1051) (qM X293 (B at_1052) rfl rfl z_))) ?_
          suffices hCx : (j405_s0 = 34 ∧ [j352_s0, j405_s0] = [j352_s0, 34] ∧ (0 : Int32) = 0 ∧ 1 = 2) ∨ (j405_s0 = 44 ∧ [j352_s0, j405_s0] = [j352_s0] ∧ (0 : Int32) = 1 ∧ 1 = 0) ∨ (j405_s0 = 10 ∧ [j352_s0, j405_s0] = [j352_s0] ∧ (0 : Int32) = 0 ∧ 1 = 0) ∨ (j405_s0 = 13 ∧ [j352_s0, j405_s0] = [j352_s0, 13] ∧ (0 : Int32) = 0 ∧ 1 = 1) ∨ (uS j405_s0 ∧ [j352_s0, j405_s0] = [j352_s0, j405_s0] ∧ (0 : Int32) = 0 ∧ 1 = 1) by
           have CR294 := CR158.trans (CHr.keep K293 all0 CR158.1)
           exact G159 _ _ _ _ _ b293 t293 1 (0 : Int32) _ K293 S293 (by omega) hCx hS (by omega) hZ hown CR294 (X293.more (by decide) (by decide)) e293 N293
          rcases hc2 with q | q | q | q | q
          · exact absurd q.1 c271
          · exact absurd q.2.1 c276
          · exact absurd q.2.2.1 c281
          · exact absurd q.2.2.2.1 c286
          · exact Or.inr (Or.inr (Or.inr (Or.inr (⟨q.2.2.2.2, rfl, rfl, rfl⟩))))
 intro TG159 LG159 hR159 vmR159 kR159 f32 t32 fl ex Lc KR159 S32 hC1 hC hS hkR159 hZ hown CR159 XG159 eG159 NG159
 have zKR159 := KR159.1
 have ls32 := S32.lt
 have ES32 := S32.1
 have hLc : Lc.length < 16 ∧ fl ≤ 2 := by rcases hC with ⟨-, rfl, -, rfl⟩ | ⟨-, rfl, -, rfl⟩ | ⟨-, rfl, -, rfl⟩ | ⟨-, rfl, -, rfl⟩ | ⟨-, rfl, -, rfl⟩ <;> exact ⟨Nat.le_of_ble_eq_true rfl, by decide⟩
 have hex : (ex = 1 ∧ fl = 0) ∨ ex = 0 := by
  rcases hC with ⟨-, -, q, -⟩ | ⟨-, -, q, q'⟩ | ⟨-, -, q, -⟩ | ⟨-, -, q, -⟩ | ⟨-, -, q, -⟩
  · exact Or.inr q
  · exact Or.inl ⟨q, q'⟩
  · exact Or.inr q
  · exact Or.inr q
  · exact Or.inr q
 refine yD (fun _ z_ => qN XG159 (B at_1054) rfl rfl z_) ?_
 have zo := (o_em4 hex : (¬ j72_s0 = 0 ∧ ex = 1) ∨ (¬ j72_s0 = 0 ∧ ex = 0) ∨ (j72_s0 = 0 ∧ ex = 1) ∨ (j72_s0 = 0 ∧ ex = 0))
 rcases zo with ⟨hcr, hexv⟩ | ⟨hcr, hexv⟩ | ⟨hcr, hexv⟩ | ⟨hcr, hexv⟩
 · obtain rfl : a4 = 14 := hA4.elim (fun q => absurd q.1 hcr) (fun q => q.2)
   have hPC : ∃ l, l ≤ l4 + 3 ∧ uC tx 3 14 l4 0 = ([Lc, []], fl, 18, l) := by
    rw [htx]
    rcases hC with ⟨q, rfl, rfl, rfl⟩ | ⟨q, rfl, rfl, rfl⟩ | ⟨q, rfl, rfl, rfl⟩ | ⟨q, rfl, rfl, rfl⟩ | ⟨q, rfl, rfl, rfl⟩
    · exact absurd hexv (by decide)
    · exact (o_rC l4 hc1).2.1 q trivial trivial
    · exact absurd hexv (by decide)
    · exact absurd hexv (by decide)
    · exact absurd hexv (by decide)
   obtain ⟨lz, hlz, hPC⟩ := hPC
   have hneC : ¬ qR tx 14 := by rw [htx]; exact o_neC
   have KK160 := yI (yF (yF (yI (yF (yF (yF (Keep.refl h143 [b136]) K151) KR152) KR153) KR154) KR155) KR158) KR159
   have O161 : Old Z n0 hR159 := O145.keep KK160 (allS (by omega) all0)
   have f162 := (St144.keep KK160 (yB (by omega) nin0) (yB (by omega) nin0))
   have f163 := (Ed_.keep KR159)
   have f164 := (d0_.keep KR159 nin0)
   have f165 := (d1_.keep KR159 nin0)
   have f166 := (d2_.keep KR159 nin0)
   refine uI (o_callVW XG159 hx hZ (y := mN1) (z := mN1) hown hS (by omega) (W 75) (W 76) (notFace_of_selects (args := #[]) (mvT hZ (W 78))) (W 78) (W 77) (by decide) (uH (W := 0) (nxR hw b136 b137 tt143 D mr em bE tx 14 l4 [Lc, []] fl 18 lz O161 CS FM FI UT DE MM EM E0 hk (by omega) (by omega) (by omega) (by omega) f163 f164 f165 f166 f162 (by omega) hneC hPC hLc.2 (o_l162 hLc.1)) hZ (W 79) (W 7) (by decide) (by decide) hEL CR159.1) eG159 f163 (by decide) (by decide) rfl (hM rfl) (argsL := []) (rest := []) (lenOf pd77 rfl) rfl rfl (qE rfl rfl) (B at_1056).2) ?_
   rintro T167 _ _ h167 X167 e167 ⟨N167q, K167, E167, Fa167, Fb167, Fc167, x167, s167, t167, rs167, ts167, fv167, rfl, RO167, FV167, FS167⟩ hS167 hZ167 hown167 CH167
   have hS := hS167
   have hZ := hZ167
   have hown := hown167
   have hrn167 := FS167.len.1
   have zK167 := K167.1
   have CR168 := CR159.trans CH167
   have N167 := Fr.app NG159 N167q
   refine yD (fun _ z_ => XS.astore X167.here hx rfl (B at_1059).2 rfl rfl rfl (yJ X167 (B at_1061) rfl (qA X167 (B at_1063) rfl ((if0 _ _).trans (feq hcr).1) (qN X167 (B at_1066) rfl rfl (yJ X167 (B at_1068) rfl (yJ X167 (B at_1070) rfl z_)))))) ?_
   refine yD (fun _ z_ => qA X167 (B at_1072) rfl ((if0 _ _).trans (feq (by rw [hexv]; decide)).1) (yH X167 (B at_1075) (yT X167 1076 1080 rfl (B at_1076) (by decide) (qN X167 (B at_1080) rfl rfl (yJ X167 (B at_1082) rfl (qA X167 (B at_1084) rfl ((if0 _ _).trans (feq (by rw [hexv]; decide)).1) z_)))))) ?_
   have zo := ldcCH X167 hx hZ hown (W 497) (o_wStr hw) e167 hS (by omega) hEL (by decide) CR168.1 (vs := []) (z := 0) (by decide) (by decide) (by decide) (g := (mkF m 1087 #[iv pk, iv pa, iv pb, iv pc, iv j11_s0, iv s1k, iv ek, iv q1k, iv j48_s0, iv tk, iv j72_s0, iv c1k, iv c2k, iv o1, iv j137_s0, iv j168_s0, iv j210_s0, iv j226_s0, iv j245_s0, iv j276_s0, iv rq, iv j299_s0, iv j313_s0, iv j352_s0, iv j405_s0, rv b116, rv b136, iv (ofNat l4), iv (1 : Int32), rv f29, rv f30, iv (1 : Int32), rv f32, iv ex, iv (ofNat fl), rv x167, .unset] [(.ref f32), (.int (2 : Int32)), (.int (ofNat l4)), (.ref x167)])) rfl (B at_1087).2 (n := 0) (by decide) (by decide) (by decide) (by decide)
   obtain ⟨a169, T169, h169, kk169, bb169, kb169, X169, e169, E169, hS169, hk169, hZ169, hown169, A169, Fc169, Fv169, V169, la169, lb169, CH169, L169, sf169, st169⟩ := zo
   replace la169 : (a169 : Nat) < Array.size h169 := la169
   have K169 : Keep h167 h169 [] := (Keep.refl _ _).ext E169
   have hS := hS169
   have hZ := hZ169
   have hown := hown169
   refine yD st169 ?_
   have zK169 := K169.1
   have CR170 := CR168.trans CH169
   have S169 : qQ Z h169 a169 ([] : List Int32) := o_litStr A169 Fc169 Fv169 V169 (by decide) (by decide) (by decide) (by decide)
   refine yD (fun _ z_ => yT X169 1089 1093 rfl (B at_1089) (by decide) (XS.aconstNull X169.here hx rfl (B at_1093).2 (yJ X169 (B at_1094) rfl z_))) ?_
   have KK171 := yI (yF (Keep.refl hR159 [b136]) K167) K169
   have O172 : Old Z n0 h169 := O161.keep KK171 (allS (by omega) all0)
   have f173 := (RO167.keep K169 nin0)
   have f174 := (uX.keep0 FV167 K169)
   have f175 := (qT.keep0 FS167 K169)
   have f176 := (S32.keep KK171 (yB (by omega) nin0) (yB (by omega) nin0))
   refine uI (o_callSW X169 hx hZ (y := mN3) hown hS (by omega) (W 173) (W 174) (W 2) (W 175) (by decide) (uH (W := 0) (ckW hw x167 em s167 t167 fl rs167 ts167 [Lc, []] (ofNat l4) fv167 (.ref f32) (.ref a169) .null O172 CS EM rfl rfl rfl FV167.ref (by rw [hrn167]; exact Nat.le_of_ble_eq_true rfl) f173 f174 f175 ⟨(fun _ => ⟨f32, rfl, (yU.str f176)⟩), (fun _ => ⟨a169, rfl, S169⟩), (fun h => absurd h (of_decide_eq_false rfl))⟩ (o_l162 hLc.1)) hZ (W 175) (W 2) (by decide) (by decide) hEL CR170.1) e169 (by decide) (by decide) rfl (hM rfl) (argsL := [(.ref x167), (.int (ofNat l4)), (.int (2 : Int32)), (.ref f32), (.ref a169), .null, (.int (ofNat fl))]) (rest := []) (lenOf pd78 rfl) rfl (by rw [hrn167]; rfl) (qE rfl rfl) (B at_1096).2) ?_
   rintro T177 _ _ h177 X177 e177 ⟨rfl, N177q, K177⟩ hS177 hZ177 hown177 CH177
   have hS := hS177
   have hZ := hZ177
   have hown := hown177
   have zK177 := K177.1
   have CR178 := CR170.trans CH177
   have N177 := Fr.app N167 N177q
   refine yD (fun _ z_ => qM X177 (B at_1099) rfl rfl (yT X177 1101 1143 rfl (B at_1101) (by decide) (yJ X177 (B at_1143) rfl (qA X177 (B at_1145) rfl ((if0 _ _).trans (feq (by decide)).1) (qN X177 (B at_1148) rfl rfl z_))))) ?_
   have O179 : Old Z n0 h177 := O172.keep K177 all0
   have KK180 := yI (yI (yF (Keep.refl hR159 [b136]) K167) K169) K177
   have f181 := (f162.keep KK180 (yB (by omega) nin0) (yB (by omega) nin0))
   have KK182 := yI (yI (Keep.refl h167 []) K169) K177
   have f183 := (E167.keep KK182)
   have f184 := (Fa167.keep KK182 nin0)
   have f185 := (Fb167.keep KK182 nin0)
   have f186 := (Fc167.keep KK182 nin0)
   refine qI (qZ X177 hZ (y := mN1) hown (W 75) (W 76) (W 78) (W 77) (W 79) (W 7) 0 (nx0 hw b136 b137 tt143 D mr em bE tx 18 lz O179 CS FM FI UT DE MM EM E0 hk (by omega) (by omega) (by omega) (by omega) f183 f184 f185 f186 f181 (by omega) (by omega)) e177 f183 (by decide) rfl (hM rfl) [] (rest := []) pd77 rfl rfl rfl rfl rfl (B at_1150)) ?_
   rintro T187 _ _ h187 X187 e187 ⟨rfl, N187q, hq187⟩
   replace e187 := e187.trans hq187
   have N187 := Fr.app N177 N187q
   refine yD (fun _ z_ => XS.ifnonnullNo X187.here hx rfl (B at_1153).2 rfl (yH X187 (B at_1156) (yT X187 1157 1161 rfl (B at_1157) (by decide) z_))) ?_
   exact o_retW X187 hx hlk e187 hZ hEL hS (by omega) CR178 hret (by decide) uN (B at_1161).2 (by decide) (by decide) ⟨rfl, N187⟩
 · obtain rfl : a4 = 14 := hA4.elim (fun q => absurd q.1 hcr) (fun q => q.2)
   have hPC : ∃ l, l ≤ l4 + 3 ∧ uC tx 3 14 l4 0 = ([Lc], fl, 18, l) := by
    rw [htx]
    rcases hC with ⟨q, rfl, rfl, rfl⟩ | ⟨q, rfl, rfl, rfl⟩ | ⟨q, rfl, rfl, rfl⟩ | ⟨q, rfl, rfl, rfl⟩ | ⟨q, rfl, rfl, rfl⟩
    · exact (o_rC l4 hc1).1 q trivial trivial
    · exact absurd hexv (by decide)
    · exact (o_rC l4 hc1).2.2.1 q trivial trivial
    · exact (o_rC l4 hc1).2.2.2.1 q trivial trivial
    · exact (o_rC l4 hc1).2.2.2.2.1 q trivial trivial
   obtain ⟨lz, hlz, hPC⟩ := hPC
   have hneC : ¬ qR tx 14 := by rw [htx]; exact o_neC
   have KK188 := yI (yF (yF (yI (yF (yF (yF (Keep.refl h143 [b136]) K151) KR152) KR153) KR154) KR155) KR158) KR159
   have O189 : Old Z n0 hR159 := O145.keep KK188 (allS (by omega) all0)
   have f190 := (St144.keep KK188 (yB (by omega) nin0) (yB (by omega) nin0))
   have f191 := (Ed_.keep KR159)
   have f192 := (d0_.keep KR159 nin0)
   have f193 := (d1_.keep KR159 nin0)
   have f194 := (d2_.keep KR159 nin0)
   refine uI (o_callVW XG159 hx hZ (y := mN1) (z := mN1) hown hS (by omega) (W 75) (W 76) (notFace_of_selects (args := #[]) (mvT hZ (W 78))) (W 78) (W 77) (by decide) (uH (W := 0) (nxR hw b136 b137 tt143 D mr em bE tx 14 l4 [Lc] fl 18 lz O189 CS FM FI UT DE MM EM E0 hk (by omega) (by omega) (by omega) (by omega) f191 f192 f193 f194 f190 (by omega) hneC hPC hLc.2 (o_l161 hLc.1)) hZ (W 79) (W 7) (by decide) (by decide) hEL CR159.1) eG159 f191 (by decide) (by decide) rfl (hM rfl) (argsL := []) (rest := []) (lenOf pd77 rfl) rfl rfl (qE rfl rfl) (B at_1056).2) ?_
   rintro T195 _ _ h195 X195 e195 ⟨N195q, K195, E195, Fa195, Fb195, Fc195, x195, s195, t195, rs195, ts195, fv195, rfl, RO195, FV195, FS195⟩ hS195 hZ195 hown195 CH195
   have hS := hS195
   have hZ := hZ195
   have hown := hown195
   have hrn195 := FS195.len.1
   have zK195 := K195.1
   have CR196 := CR159.trans CH195
   have N195 := Fr.app NG159 N195q
   refine qO m 1059 #[iv pk, iv pa, iv pb, iv pc, iv j11_s0, iv s1k, iv ek, iv q1k, iv j48_s0, iv tk, iv j72_s0, iv c1k, iv c2k, iv o1, iv j137_s0, iv j168_s0, iv j210_s0, iv j226_s0, iv j245_s0, iv j276_s0, iv rq, iv j299_s0, iv j313_s0, iv j352_s0, iv j405_s0, rv b116, rv b136, iv (ofNat l4), iv (1 : Int32), rv f29, rv f30, iv (1 : Int32), rv f32, iv ex, iv (ofNat fl), .unset, .unset] [(.ref x195)] ?_
   refine yD (fun _ z_ => XS.astore X195.here hx rfl (B at_1059).2 rfl rfl rfl (yJ X195 (B at_1061) rfl (qA X195 (B at_1063) rfl ((if0 _ _).trans (feq hcr).1) (qN X195 (B at_1066) rfl rfl (yJ X195 (B at_1068) rfl (yJ X195 (B at_1070) rfl z_)))))) ?_
   refine yD (fun _ z_ => qF X195 1072 1079 rfl (B at_1072) rfl ((if0 _ _).trans (teq hexv).1) (by decide) (yH X195 (B at_1079) (qN X195 (B at_1080) rfl rfl (yJ X195 (B at_1082) rfl (qF X195 1084 1092 rfl (B at_1084) rfl ((if0 _ _).trans (teq hexv).1) (by decide) (XS.aconstNull X195.here hx rfl (B at_1092).2 z_)))))) ?_
   refine yD (fun _ z_ => XS.aconstNull X195.here hx rfl (B at_1093).2 (yJ X195 (B at_1094) rfl z_)) ?_
   have O197 : Old Z n0 h195 := O189.keep K195 (allS (by omega) all0)
   have f198 := (S32.keep K195 (yB (by omega) nin0) (yB (by omega) nin0))
   refine uI (o_callSW X195 hx hZ (y := mN3) hown hS (by omega) (W 173) (W 174) (W 2) (W 175) (by decide) (uH (W := 0) (ckW hw x195 em s195 t195 fl rs195 ts195 [Lc] (ofNat l4) fv195 (.ref f32) .null .null O197 CS EM rfl rfl rfl FV195.ref (by rw [hrn195]; exact Nat.le_of_ble_eq_true rfl) RO195 FV195 FS195 ⟨(fun _ => ⟨f32, rfl, (yU.str f198)⟩), (fun h => absurd h (of_decide_eq_false rfl)), (fun h => absurd h (of_decide_eq_false rfl))⟩ (o_l161 hLc.1)) hZ (W 175) (W 2) (by decide) (by decide) hEL CR196.1) e195 (by decide) (by decide) rfl (hM rfl) (argsL := [(.ref x195), (.int (ofNat l4)), (.int (1 : Int32)), (.ref f32), .null, .null, (.int (ofNat fl))]) (rest := []) (lenOf pd78 rfl) rfl (by rw [hrn195]; rfl) (qE rfl rfl) (B at_1096).2) ?_
   rintro T199 _ _ h199 X199 e199 ⟨rfl, N199q, K199⟩ hS199 hZ199 hown199 CH199
   have hS := hS199
   have hZ := hZ199
   have hown := hown199
   have zK199 := K199.1
   have CR200 := CR196.trans CH199
   have N199 := Fr.app N195 N199q
   refine yD (fun _ z_ => qM X199 (B at_1099) rfl rfl (yT X199 1101 1143 rfl (B at_1101) (by decide) (yJ X199 (B at_1143) rfl (qA X199 (B at_1145) rfl ((if0 _ _).trans (feq (by decide)).1) (qN X199 (B at_1148) rfl rfl z_))))) ?_
   have O201 : Old Z n0 h199 := O197.keep K199 all0
   have KK202 := yI (yF (Keep.refl hR159 [b136]) K195) K199
   have f203 := (f190.keep KK202 (yB (by omega) nin0) (yB (by omega) nin0))
   have f204 := (E195.keep K199)
   have f205 := (Fa195.keep K199 nin0)
   have f206 := (Fb195.keep K199 nin0)
   have f207 := (Fc195.keep K199 nin0)
   refine qI (qZ X199 hZ (y := mN1) hown (W 75) (W 76) (W 78) (W 77) (W 79) (W 7) 0 (nx0 hw b136 b137 tt143 D mr em bE tx 18 lz O201 CS FM FI UT DE MM EM E0 hk (by omega) (by omega) (by omega) (by omega) f204 f205 f206 f207 f203 (by omega) (by omega)) e199 f204 (by decide) rfl (hM rfl) [] (rest := []) pd77 rfl rfl rfl rfl rfl (B at_1150)) ?_
   rintro T208 _ _ h208 X208 e208 ⟨rfl, N208q, hq208⟩
   replace e208 := e208.trans hq208
   have N208 := Fr.app N199 N208q
   refine yD (fun _ z_ => XS.ifnonnullNo X208.here hx rfl (B at_1153).2 rfl (yH X208 (B at_1156) (yT X208 1157 1161 rfl (B at_1157) (by decide) z_))) ?_
   exact o_retW X208 hx hlk e208 hZ hEL hS (by omega) CR200 hret (by decide) uN (B at_1161).2 (by decide) (by decide) ⟨rfl, N208⟩
 · obtain rfl : a4 = 12 := hA4.elim (fun q => q.2) (fun q => absurd hcr q.1)
   have hrr3 : j299_s0 = rq ∧ j313_s0 = 44 := hrr.elim (fun q => q.2) (fun q => absurd hcr q.1)
   have hPC : ∃ l, l ≤ l4 + 3 ∧ uC tx 3 12 l4 0 = ([[rq], Lc, []], fl, 18, l) := by
    rw [htx]
    rcases hC with ⟨q, rfl, rfl, rfl⟩ | ⟨q, rfl, rfl, rfl⟩ | ⟨q, rfl, rfl, rfl⟩ | ⟨q, rfl, rfl, rfl⟩ | ⟨q, rfl, rfl, rfl⟩
    · exact absurd hexv (by decide)
    · rw [hrr3.1]; exact (o_rC l4 hc1).2.2.2.2.2.2.1 q crq hrr3.2
    · exact absurd hexv (by decide)
    · exact absurd hexv (by decide)
    · exact absurd hexv (by decide)
   obtain ⟨lz, hlz, hPC⟩ := hPC
   have hneC : ¬ qR tx 12 := by rw [htx]; exact o_neD (hrr3.1 ▸ crq)
   have KK209 := yI (yF (yF (yI (yF (yF (yF (Keep.refl h143 [b136]) K151) KR152) KR153) KR154) KR155) KR158) KR159
   have O210 : Old Z n0 hR159 := O145.keep KK209 (allS (by omega) all0)
   have f211 := (St144.keep KK209 (yB (by omega) nin0) (yB (by omega) nin0))
   have f212 := (Ed_.keep KR159)
   have f213 := (d0_.keep KR159 nin0)
   have f214 := (d1_.keep KR159 nin0)
   have f215 := (d2_.keep KR159 nin0)
   refine uI (o_callVW XG159 hx hZ (y := mN1) (z := mN1) hown hS (by omega) (W 75) (W 76) (notFace_of_selects (args := #[]) (mvT hZ (W 78))) (W 78) (W 77) (by decide) (uH (W := 0) (nxR hw b136 b137 tt143 D mr em bE tx 12 l4 [[rq], Lc, []] fl 18 lz O210 CS FM FI UT DE MM EM E0 hk (by omega) (by omega) (by omega) (by omega) f212 f213 f214 f215 f211 (by omega) hneC hPC hLc.2 (o_l164 hLc.1)) hZ (W 79) (W 7) (by decide) (by decide) hEL CR159.1) eG159 f212 (by decide) (by decide) rfl (hM rfl) (argsL := []) (rest := []) (lenOf pd77 rfl) rfl rfl (qE rfl rfl) (B at_1056).2) ?_
   rintro T216 _ _ h216 X216 e216 ⟨N216q, K216, E216, Fa216, Fb216, Fc216, x216, s216, t216, rs216, ts216, fv216, rfl, RO216, FV216, FS216⟩ hS216 hZ216 hown216 CH216
   have hS := hS216
   have hZ := hZ216
   have hown := hown216
   have hrn216 := FS216.len.1
   have zK216 := K216.1
   have CR217 := CR159.trans CH216
   have N216 := Fr.app NG159 N216q
   refine yD (fun _ z_ => XS.astore X216.here hx rfl (B at_1059).2 rfl rfl rfl (yJ X216 (B at_1061) rfl (qF X216 1063 1104 rfl (B at_1063) rfl ((if0 _ _).trans (teq hcr).1) (by decide) (qN X216 (B at_1104) rfl rfl (yJ X216 (B at_1106) rfl (yJ X216 (B at_1108) rfl z_)))))) ?_
   refine yD (fun _ z_ => qA X216 (B at_1110) rfl ((if0 _ _).trans (feq (by rw [hexv]; decide)).1) (yH X216 (B at_1113) (yT X216 1114 1118 rfl (B at_1114) (by decide) (yJ X216 (B at_1118) rfl z_)))) ?_
   have O218 : Old Z n0 h216 := O210.keep K216 (allS (by omega) all0)
   refine qI (qD X216 hZ (y := mN11) hown (W 454) (W 455) (W 2) (W 456) 3 (s1W hw rq O218 CS UT crq.1) e216 (by decide) rfl (hM rfl) [(.int rq)] (rest := [(.int (3 : Int32)), (.int (ofNat l4)), (.ref x216)]) pd73 rfl rfl rfl rfl rfl (B at_1120)) ?_
   rintro T219 _ _ h219 X219 e219 ⟨N219q, b219, t219, rfl, K219, zb219, zt219, S219⟩
   have zK219 := K219.1
   have N219 := Fr.app N216 N219q
   have E219 := S219.1
   have ls219 := S219.lt
   refine yD (fun _ z_ => qN X219 (B at_1123) rfl rfl (yJ X219 (B at_1125) rfl (qA X219 (B at_1127) rfl ((if0 _ _).trans (feq (by rw [hexv]; decide)).1) z_))) ?_
   refine qO m 1130 #[iv pk, iv pa, iv pb, iv pc, iv j11_s0, iv s1k, iv ek, iv q1k, iv j48_s0, iv tk, iv j72_s0, iv c1k, iv c2k, iv o1, iv j137_s0, iv j168_s0, iv j210_s0, iv j226_s0, iv j245_s0, iv j276_s0, iv rq, iv j299_s0, iv j313_s0, iv j352_s0, iv j405_s0, rv b116, rv b136, iv (ofNat l4), iv (1 : Int32), rv f29, rv f30, iv (1 : Int32), rv f32, iv ex, iv (ofNat fl), rv x216, .unset] [(.ref f32), (.ref b219), (.int (3 : Int32)), (.int (ofNat l4)), (.ref x216)] ?_
   have CR220 := CR217.trans (CHr.keep K219 all0 CR217.1)
   have zo := ldcCH X219 hx hZ hown (W 497) (o_wStr hw) e219 hS (by omega) hEL (by decide) CR220.1 (vs := []) (z := 0) (by decide) (by decide) (by decide) (g := (mkF m 1130 #[iv pk, iv pa, iv pb, iv pc, iv j11_s0, iv s1k, iv ek, iv q1k, iv j48_s0, iv tk, iv j72_s0, iv c1k, iv c2k, iv o1, iv j137_s0, iv j168_s0, iv j210_s0, iv j226_s0, iv j245_s0, iv j276_s0, iv rq, iv j299_s0, iv j313_s0, iv j352_s0, iv j405_s0, rv b116, rv b136, iv (ofNat l4), iv (1 : Int32), rv f29, rv f30, iv (1 : Int32), rv f32, iv ex, iv (ofNat fl), rv x216, .unset] [(.ref f32), (.ref b219), (.int (3 : Int32)), (.int (ofNat l4)), (.ref x216)])) rfl (B at_1130).2 (n := 0) (by decide) (by decide) (by decide) (by decide)
   obtain ⟨a221, T221, h221, kk221, bb221, kb221, X221, e221, E221, hS221, hk221, hZ221, hown221, A221, Fc221, Fv221, V221, la221, lb221, CH221, L221, sf221, st221⟩ := zo
   replace la221 : (a221 : Nat) < Array.size h221 := la221
   have K221 : Keep h219 h221 [] := (Keep.refl _ _).ext E221
   have hS := hS221
   have hZ := hZ221
   have hown := hown221
   refine yD st221 ?_
   have zK221 := K221.1
   have CR222 := CR220.trans CH221
   have S221 : qQ Z h221 a221 ([] : List Int32) := o_litStr A221 Fc221 Fv221 V221 (by decide) (by decide) (by decide) (by decide)
   refine yD (fun _ z_ => yT X221 1132 1136 rfl (B at_1132) (by decide) (yJ X221 (B at_1136) rfl z_)) ?_
   have KK223 := yI (yI (Keep.refl h216 []) K219) K221
   have O224 : Old Z n0 h221 := O218.keep KK223 all0
   have f225 := (RO216.keep KK223 nin0)
   have f226 := (uX.keep0 FV216 KK223)
   have f227 := (qT.keep0 FS216 KK223)
   have f228 := (S219.keep K221 nin0 nin0)
   have KK229 := yI (yI (yF (Keep.refl hR159 [b136]) K216) K219) K221
   have f230 := (S32.keep KK229 (yB (by omega) nin0) (yB (by omega) nin0))
   refine uI (o_callSW X221 hx hZ (y := mN3) hown hS (by omega) (W 173) (W 174) (W 2) (W 175) (by decide) (uH (W := 0) (ckW hw x216 em s216 t216 fl rs216 ts216 [[rq], Lc, []] (ofNat l4) fv216 (.ref b219) (.ref f32) (.ref a221) O224 CS EM rfl rfl rfl FV216.ref (by rw [hrn216]; exact Nat.le_of_ble_eq_true rfl) f225 f226 f227 ⟨(fun _ => ⟨b219, rfl, (yU.str f228)⟩), (fun _ => ⟨f32, rfl, (yU.str f230)⟩), (fun _ => ⟨a221, rfl, S221⟩)⟩ (o_l164 hLc.1)) hZ (W 175) (W 2) (by decide) (by decide) hEL CR222.1) e221 (by decide) (by decide) rfl (hM rfl) (argsL := [(.ref x216), (.int (ofNat l4)), (.int (3 : Int32)), (.ref b219), (.ref f32), (.ref a221), (.int (ofNat fl))]) (rest := []) (lenOf pd78 rfl) rfl (by rw [hrn216]; rfl) (qE rfl rfl) (B at_1138).2) ?_
   rintro T231 _ _ h231 X231 e231 ⟨rfl, N231q, K231⟩ hS231 hZ231 hown231 CH231
   have hS := hS231
   have hZ := hZ231
   have hown := hown231
   have zK231 := K231.1
   have CR232 := CR222.trans CH231
   have N231 := Fr.app N219 N231q
   refine yD (fun _ z_ => qM X231 (B at_1141) rfl rfl (yJ X231 (B at_1143) rfl (qA X231 (B at_1145) rfl ((if0 _ _).trans (feq (by decide)).1) (qN X231 (B at_1148) rfl rfl z_)))) ?_
   have O233 : Old Z n0 h231 := O224.keep K231 all0
   have KK234 := yI (yI (yI (yF (Keep.refl hR159 [b136]) K216) K219) K221) K231
   have f235 := (f211.keep KK234 (yB (by omega) nin0) (yB (by omega) nin0))
   have KK236 := yI (yI (yI (Keep.refl h216 []) K219) K221) K231
   have f237 := (E216.keep KK236)
   have f238 := (Fa216.keep KK236 nin0)
   have f239 := (Fb216.keep KK236 nin0)
   have f240 := (Fc216.keep KK236 nin0)
   refine qI (qZ X231 hZ (y := mN1) hown (W 75) (W 76) (W 78) (W 77) (W 79) (W 7) 0 (nx0 hw b136 b137 tt143 D mr em bE tx 18 lz O233 CS FM FI UT DE MM EM E0 hk (by omega) (by omega) (by omega) (by omega) f237 f238 f239 f240 f235 (by omega) (by omega)) e231 f237 (by decide) rfl (hM rfl) [] (rest := []) pd77 rfl rfl rfl rfl rfl (B at_1150)) ?_
   rintro T241 _ _ h241 X241 e241 ⟨rfl, N241q, hq241⟩
   replace e241 := e241.trans hq241
   have N241 := Fr.app N231 N241q
   refine yD (fun _ z_ => XS.ifnonnullNo X241.here hx rfl (B at_1153).2 rfl (yH X241 (B at_1156) (yT X241 1157 1161 rfl (B at_1157) (by decide) z_))) ?_
   exact o_retW X241 hx hlk e241 hZ hEL hS (by omega) CR232 hret (by decide) uN (B at_1161).2 (by decide) (by decide) ⟨rfl, N241⟩
 · obtain rfl : a4 = 12 := hA4.elim (fun q => q.2) (fun q => absurd hcr q.1)
   have hrr3 : j299_s0 = rq ∧ j313_s0 = 44 := hrr.elim (fun q => q.2) (fun q => absurd hcr q.1)
   have hPC : ∃ l, l ≤ l4 + 3 ∧ uC tx 3 12 l4 0 = ([[rq], Lc], fl, 18, l) := by
    rw [htx]
    rcases hC with ⟨q, rfl, rfl, rfl⟩ | ⟨q, rfl, rfl, rfl⟩ | ⟨q, rfl, rfl, rfl⟩ | ⟨q, rfl, rfl, rfl⟩ | ⟨q, rfl, rfl, rfl⟩
    · rw [hrr3.1]; exact (o_rC l4 hc1).2.2.2.2.2.1 q crq hrr3.2
    · exact absurd hexv (by decide)
    · rw [hrr3.1]; exact (o_rC l4 hc1).2.2.2.2.2.2.2.1 q crq hrr3.2
    · rw [hrr3.1]; exact (o_rC l4 hc1).2.2.2.2.2.2.2.2.1 q crq hrr3.2
    · rw [hrr3.1]; exact (o_rC l4 hc1).2.2.2.2.2.2.2.2.2 q crq hrr3.2
   obtain ⟨lz, hlz, hPC⟩ := hPC
   have hneC : ¬ qR tx 12 := by rw [htx]; exact o_neD (hrr3.1 ▸ crq)
   have KK242 := yI (yF (yF (yI (yF (yF (yF (Keep.refl h143 [b136]) K151) KR152) KR153) KR154) KR155) KR158) KR159
   have O243 : Old Z n0 hR159 := O145.keep KK242 (allS (by omega) all0)
   have f244 := (St144.keep KK242 (yB (by omega) nin0) (yB (by omega) nin0))
   have f245 := (Ed_.keep KR159)
   have f246 := (d0_.keep KR159 nin0)
   have f247 := (d1_.keep KR159 nin0)
   have f248 := (d2_.keep KR159 nin0)
   refine uI (o_callVW XG159 hx hZ (y := mN1) (z := mN1) hown hS (by omega) (W 75) (W 76) (notFace_of_selects (args := #[]) (mvT hZ (W 78))) (W 78) (W 77) (by decide) (uH (W := 0) (nxR hw b136 b137 tt143 D mr em bE tx 12 l4 [[rq], Lc] fl 18 lz O243 CS FM FI UT DE MM EM E0 hk (by omega) (by omega) (by omega) (by omega) f245 f246 f247 f248 f244 (by omega) hneC hPC hLc.2 (o_l163 hLc.1)) hZ (W 79) (W 7) (by decide) (by decide) hEL CR159.1) eG159 f245 (by decide) (by decide) rfl (hM rfl) (argsL := []) (rest := []) (lenOf pd77 rfl) rfl rfl (qE rfl rfl) (B at_1056).2) ?_
   rintro T249 _ _ h249 X249 e249 ⟨N249q, K249, E249, Fa249, Fb249, Fc249, x249, s249, t249, rs249, ts249, fv249, rfl, RO249, FV249, FS249⟩ hS249 hZ249 hown249 CH249
   have hS := hS249
   have hZ := hZ249
   have hown := hown249
   have hrn249 := FS249.len.1
   have zK249 := K249.1
   have CR250 := CR159.trans CH249
   have N249 := Fr.app NG159 N249q
   refine yD (fun _ z_ => XS.astore X249.here hx rfl (B at_1059).2 rfl rfl rfl (yJ X249 (B at_1061) rfl (qF X249 1063 1104 rfl (B at_1063) rfl ((if0 _ _).trans (teq hcr).1) (by decide) (qN X249 (B at_1104) rfl rfl (yJ X249 (B at_1106) rfl (yJ X249 (B at_1108) rfl z_)))))) ?_
   refine yD (fun _ z_ => qF X249 1110 1117 rfl (B at_1110) rfl ((if0 _ _).trans (teq hexv).1) (by decide) (yH X249 (B at_1117) (yJ X249 (B at_1118) rfl z_))) ?_
   have O251 : Old Z n0 h249 := O243.keep K249 (allS (by omega) all0)
   refine qI (qD X249 hZ (y := mN11) hown (W 454) (W 455) (W 2) (W 456) 3 (s1W hw rq O251 CS UT crq.1) e249 (by decide) rfl (hM rfl) [(.int rq)] (rest := [(.int (2 : Int32)), (.int (ofNat l4)), (.ref x249)]) pd73 rfl rfl rfl rfl rfl (B at_1120)) ?_
   rintro T252 _ _ h252 X252 e252 ⟨N252q, b252, t252, rfl, K252, zb252, zt252, S252⟩
   have zK252 := K252.1
   have N252 := Fr.app N249 N252q
   have E252 := S252.1
   have ls252 := S252.lt
   refine yD (fun _ z_ => qN X252 (B at_1123) rfl rfl (yJ X252 (B at_1125) rfl (qF X252 1127 1135 rfl (B at_1127) rfl ((if0 _ _).trans (teq hexv).1) (by decide) (XS.aconstNull X252.here hx rfl (B at_1135).2 (yJ X252 (B at_1136) rfl z_))))) ?_
   have O253 : Old Z n0 h252 := O251.keep K252 all0
   have f254 := (RO249.keep K252 nin0)
   have f255 := (uX.keep0 FV249 K252)
   have f256 := (qT.keep0 FS249 K252)
   have KK257 := yI (yF (Keep.refl hR159 [b136]) K249) K252
   have f258 := (S32.keep KK257 (yB (by omega) nin0) (yB (by omega) nin0))
   have CR260 := CR250.trans (CHr.keep K252 all0 CR250.1)
   refine uI (o_callSW X252 hx hZ (y := mN3) hown hS (by omega) (W 173) (W 174) (W 2) (W 175) (by decide) (uH (W := 0) (ckW hw x249 em s249 t249 fl rs249 ts249 [[rq], Lc] (ofNat l4) fv249 (.ref b252) (.ref f32) .null O253 CS EM rfl rfl rfl FV249.ref (by rw [hrn249]; exact Nat.le_of_ble_eq_true rfl) f254 f255 f256 ⟨(fun _ => ⟨b252, rfl, (yU.str S252)⟩), (fun _ => ⟨f32, rfl, (yU.str f258)⟩), (fun h => absurd h (of_decide_eq_false rfl))⟩ (o_l163 hLc.1)) hZ (W 175) (W 2) (by decide) (by decide) hEL CR260.1) e252 (by decide) (by decide) rfl (hM rfl) (argsL := [(.ref x249), (.int (ofNat l4)), (.int (2 : Int32)), (.ref b252), (.ref f32), .null, (.int (ofNat fl))]) (rest := []) (lenOf pd78 rfl) rfl (by rw [hrn249]; rfl) (qE rfl rfl) (B at_1138).2) ?_
   rintro T259 _ _ h259 X259 e259 ⟨rfl, N259q, K259⟩ hS259 hZ259 hown259 CH259
   have hS := hS259
   have hZ := hZ259
   have hown := hown259
   have zK259 := K259.1
   have CR261 := CR260.trans CH259
   have N259 := Fr.app N252 N259q
   refine qO m 1141 #[iv pk, iv pa, iv pb, iv pc, iv j11_s0, iv s1k, iv ek, iv q1k, iv j48_s0, iv tk, iv j72_s0, iv c1k, iv c2k, iv o1, iv j137_s0, iv j168_s0, iv j210_s0, iv j226_s0, iv j245_s0, iv j276_s0, iv rq, iv j299_s0, iv j313_s0, iv j352_s0, iv j405_s0, rv b116, rv b136, iv (ofNat l4), iv (1 : Int32), rv f29, rv f30, iv (1 : Int32), rv f32, iv ex, iv (ofNat fl), rv x249, .unset] [(.int (1 : Int32))] ?_
   refine yD (fun _ z_ => qM X259 (B at_1141) rfl rfl (yJ X259 (B at_1143) rfl (qA X259 (B at_1145) rfl ((if0 _ _).trans (feq (by decide)).1) (qN X259 (B at_1148) rfl rfl z_)))) ?_
   have O262 : Old Z n0 h259 := O253.keep K259 all0
   have KK263 := yI (yI (yF (Keep.refl hR159 [b136]) K249) K252) K259
   have f264 := (f244.keep KK263 (yB (by omega) nin0) (yB (by omega) nin0))
   have KK265 := yI (yI (Keep.refl h249 []) K252) K259
   have f266 := (E249.keep KK265)
   have f267 := (Fa249.keep KK265 nin0)
   have f268 := (Fb249.keep KK265 nin0)
   have f269 := (Fc249.keep KK265 nin0)
   refine qI (qZ X259 hZ (y := mN1) hown (W 75) (W 76) (W 78) (W 77) (W 79) (W 7) 0 (nx0 hw b136 b137 tt143 D mr em bE tx 18 lz O262 CS FM FI UT DE MM EM E0 hk (by omega) (by omega) (by omega) (by omega) f266 f267 f268 f269 f264 (by omega) (by omega)) e259 f266 (by decide) rfl (hM rfl) [] (rest := []) pd77 rfl rfl rfl rfl rfl (B at_1150)) ?_
   rintro T270 _ _ h270 X270 e270 ⟨rfl, N270q, hq270⟩
   replace e270 := e270.trans hq270
   have N270 := Fr.app N259 N270q
   refine yD (fun _ z_ => XS.ifnonnullNo X270.here hx rfl (B at_1153).2 rfl (yH X270 (B at_1156) (yT X270 1157 1161 rfl (B at_1157) (by decide) z_))) ?_
   exact o_retW X270 hx hlk e270 hZ hEL hS (by omega) CR261 hret (by decide) uN (B at_1161).2 (by decide) (by decide) ⟨rfl, N270⟩
theorem o_staR {Z : State} {a0 : Array Value} {O f d K : String} (hf : Fit Z) (ht : parseFieldDescriptor d = some (.object K)) (w1 : (Jvm.Cond.laysStatic O f d).before a0 Z = true) (w2 : (Jvm.Cond.initialized O).before a0 Z = true) : ∃ G : Value, Sta Z Z.heap O f d G ∧ G.isRef = true := by
 obtain ⟨c, k, i, fd, a, cell, hc, hff, hst, hsta, hcell, hiss, hcls, hlt, hty⟩ := Cond.laysStatic_spec w1
 have hk := (State.fieldFound?_spec hff).1
 have h1 := hf hcell hlt
 have h2 : fits (.object K) cell.slots[fd.slot] = true := by
  have htt := (State.fieldFound?_type hff ht).2
  cases hvm : cell.vm with
  | statics x => simpa [State.fitsSlot, State.slotType?, hcls, hk, hvm, hty, htt] using h1
  | _ => simp [hvm, VmData.isStatics] at hiss
 refine ⟨_, ⟨c, i, k, fd, a, cell, hff, hst, Cond.initialized_spec hc hk w2, hsta, hcell, hiss, Array.getElem?_eq_getElem hlt⟩, ?_⟩
 cases hv : cell.slots[fd.slot] <;> simp [hv, fits] at h2 <;> rfl
theorem comes_1 {Post : Tables → Env → Array Value → State → Outcome → State → Prop} (hpost : ∀ tb e args s v u, (limb_1_1.after args s (.returned v) u = true ∧ limb_1_2.after args s (.returned v) u = true ∧ True) → ReturnedEndW s (.returned v) u (Jvm.fieldLocs frame_1_writes args s ++ Jvm.arrayLocs frame_1_arrays args s ++ Jvm.staticLocs frame_1_statics s) 152 6080 → Post tb e args s (.returned v) u) :
 ArmFor flags0 classFile x code maxLocals ret World_1 tables_1 room_1 Calls_1 rest_1 Pre_1 Post := by
 intro l hfl _ _ p e ha hc hk s m args below hf hA hF happ hP
 obtain ⟨hcalls, hrest, hpre⟩ := hP
 obtain ⟨-, -, -, hnamed, -, -, -, hat⟩ := (Spec.applies_iff hf).mp happ
 obtain ⟨hg, hn⟩ := and_e (Cond.before_iff.mp (show (Jvm.Cond.and given_1 narrow_1).before args s = true from hpre))
 obtain ⟨g2, g3⟩ := and_e hg
 obtain ⟨g4, g5⟩ := and_e g3
 obtain ⟨g6, g7⟩ := and_e g5
 obtain ⟨g8, g9⟩ := and_e g7
 obtain ⟨w0, w1, w2, w3, rfl⟩ : ∃ w0 w1 w2 w3 : Value, args = #[w0, w1, w2, w3] := by
  have hs : args.size = 4 := by simpa [Cond.value, given_1] using g2
  obtain ⟨L⟩ := args
  match L, hs with
  | [w0, w1, w2, w3], _ => exact ⟨w0, w1, w2, w3, rfl⟩
 have hw := fun d (hd : d ∈ tables_1) => atoms_spec (ws := Jvm.Cond.code x code maxLocals ret :: tables_1) hat d (List.mem_cons_of_mem _ hd)
 have W := qC hw
 have hfit : Fit s := fun {y c} hc i hi => by
  obtain ⟨ha, rfl⟩ := Array.getElem?_eq_some_iff.mp hc
  have q := List.all_eq_true.mp ((Array.all_eq_true_iff_forall_mem.mp hF) _ (Array.getElem_mem ha)) i (List.mem_range.mpr hi)
  simpa [Array.getElem?_eq_getElem hi] using q
 obtain ⟨hsets, hown0⟩ := atoms_of _ (rest_1_c_eq ▸ (show rest_1_c.before _ s = true from hrest))
 have hr0 := Cond.before_iff.mp hown0
 obtain ⟨i0, ei0⟩ := is_v g4
 obtain rfl : w0 = (.int i0) := Option.some.inj ei0
 obtain ⟨i1, ei1⟩ := is_v g6
 obtain rfl : w1 = (.int i1) := Option.some.inj ei1
 obtain ⟨i2, ei2⟩ := is_v g8
 obtain rfl : w2 = (.int i2) := Option.some.inj ei2
 obtain ⟨i3, ei3⟩ := is_v g9
 obtain rfl : w3 = (.int i3) := Option.some.inj ei3
 have n5 := not_v (Cond.before_iff.mp (hsets _ (List.mem_of_getElem? (i := 2) rfl)))
 obtain ⟨zc, ezc⟩ := is_v (Cond.before_iff.mp (hsets _ (List.mem_of_getElem? (i := 1) rfl)))
 have CS : uE s := ⟨zc, Sta.start ezc (Or.inl (hsets _ (List.mem_of_getElem? (i := 0) rfl))), gotF (Cond.eq_ints ezc (Term.int_eval (0))) n5⟩
 obtain ⟨fmv, efm, rfm⟩ := isR_v (Cond.before_iff.mp (hsets _ (List.mem_of_getElem? (i := 8) rfl)))
 have FM : uQ s := ⟨fmv, Sta.start efm (Or.inl (hsets _ (List.mem_of_getElem? (i := 7) rfl))), rfm⟩
 have Ua_ := Sta.start (o_eqI (Cond.before_iff.mp (hsets _ (List.mem_of_getElem? (i := 37) rfl)))) (Or.inl (hsets _ (List.mem_of_getElem? (i := 36) rfl)))
 have Uh_ := Sta.start (o_eqI (Cond.before_iff.mp (hsets _ (List.mem_of_getElem? (i := 40) rfl)))) (Or.inl (hsets _ (List.mem_of_getElem? (i := 39) rfl)))
 have Ul_ := Sta.start (o_eqI (Cond.before_iff.mp (hsets _ (List.mem_of_getElem? (i := 43) rfl)))) (Or.inl (hsets _ (List.mem_of_getElem? (i := 42) rfl)))
 have UT : uB s := ⟨Ua_, Uh_, Ul_⟩
 have FI : o_FMI s := o_staR (K := "java/util/function/BiFunction") hfit (by decide +kernel) (W 243) (W 69)
 obtain ⟨D, eD⟩ := exa_v (Cond.before_iff.mp (hsets _ (List.mem_of_getElem? (i := 16) rfl)))
 obtain ⟨clD, AD⟩ := Arr.start eD (Cond.before_iff.mp (hsets _ (List.mem_of_getElem? (i := 15) rfl)))
 obtain ⟨lD, mD⟩ := o_len AD (o_eqI (Cond.before_iff.mp (hsets _ (List.mem_of_getElem? (i := 17) rfl)))) eD
 have VD := Arv.start (dv := .null) (vs := []) hfit AD lD mD (by decide) (by rfl) trivial
 have DE : o_DE s D := ⟨Sta.start eD (Or.inr ⟨(W 92), (hsets _ (List.mem_of_getElem? (i := 11) rfl))⟩), _, VD⟩
 obtain ⟨bE, eE⟩ := exa_v (Cond.before_iff.mp (hsets _ (List.mem_of_getElem? (i := 20) rfl)))
 have EE := Exa.start eE (Cond.before_iff.mp (hsets _ (List.mem_of_getElem? (i := 20) rfl)))
 obtain ⟨eaE, eF⟩ := exa_v (Cond.before_iff.mp (hsets _ (List.mem_of_getElem? (i := 22) rfl)))
 have FE := Fld.start ((fld_at eE).symm.trans eF)
 obtain ⟨clE, AE⟩ := Arr.start eF (Cond.before_iff.mp (hsets _ (List.mem_of_getElem? (i := 21) rfl)))
 obtain ⟨lE, mE⟩ := o_len AE (o_eqI (Cond.before_iff.mp (hsets _ (List.mem_of_getElem? (i := 23) rfl)))) eF
 have VE := Arv.start (dv := .null) (vs := []) hfit AE lE mE (by decide) (by rfl) trivial
 have E0 : o_E0 s bE := ⟨Sta.start eE (Or.inl (hsets _ (List.mem_of_getElem? (i := 19) rfl))), EE, eaE, _, FE, VE⟩
 obtain ⟨em, eM⟩ := exa_v (Cond.before_iff.mp (hsets _ (List.mem_of_getElem? (i := 27) rfl)))
 have XM := Exa.start eM (Cond.before_iff.mp (hsets _ (List.mem_of_getElem? (i := 27) rfl)))
 have EM : o_EM s em := ⟨Sta.start eM (Or.inl (hsets _ (List.mem_of_getElem? (i := 26) rfl))), XM.lt⟩
 obtain ⟨cq, kq, mr, q1, q2, q3⟩ := hcalls.1
 have MM : o_MM s sN8 mr := ⟨cq, kq, q1, q2, q3.1⟩
 have hCH : CHv s uO s.vm s.heap := CHv.start (o_hEL hw) (fun p hp => (show Jvm.Lit.constHeld s p.1 p.2 from hcalls.2.1 p (by simpa [consts_1, uO] using hp))) (show Jvm.Lit.compactW.before _ s = true from (hsets _ (List.mem_of_getElem? (i := 2) rfl))) (W 26) (W 9)
 obtain ⟨n, o, h1, h2, h3, _, L, rfl, ⟨rfl, N⟩, -, hq⟩ := lawW (l := l) (Z := s) hw tables_1 i0 i1 i2 i3 D mr em bE (Old.start s) CS FM FI UT DE MM EM E0 p e ha hc hk s m _ below hf ((Spec.applies_iff_loose hf).mp happ).1 ⟨rfl, State.Warmed39.refl s, rfl, hCH⟩ trivial
 refine ⟨n, _, h1, h2, h3, hpost _ _ _ _ _ _ ⟨Cond.after_iff.mpr rfl, Cond.after_iff.mpr (eq_i res_at (Term.int_eval (1)) rfl), trivial⟩ ⟨hq.1, hq.2.1, hq.2.2.1, (hq.2.2.2.sift fun y hy => Or.inr (N y hy)).mono (by decide) (by decide)⟩⟩
theorem main_1_1 : Claimed_1_1 := comes_1 fun _ _ _ _ _ _ h hF => ⟨h.1, hF⟩
theorem main_1_2 : Claimed_1_2 := comes_1 fun _ _ _ _ _ _ h hF => ⟨h.2.1, hF⟩
end Jvm.Pilot.@@N@@
namespace Jvm.Pilot.@@N@@
open Jvm Jvm.ClassFile Sem Op Lib Jvm.Free Jvm.Stand Jvm.Pilot.@@N@@.Jvm.D
namespace start1
set_option maxRecDepth 65536
open Jvm.ClassFile
abbrev t1 : String := "<init>"
abbrev t2 : String := "java/util/function/BiFunction"
abbrev t3 : String := "java/util/ImmutableCollections$AbstractImmutableList"
abbrev t4 : String := "java/util/ImmutableCollections$AbstractImmutableCollection"
abbrev t5 : String := "()V"
abbrev t6 : String := "java/util/ImmutableCollections"
abbrev t7 : String := "(Lcom/example/shelfproof/shelfproof/csv/Csv$Row;IILjava/lang/String;Ljava/lang/String;Ljava/lang/String;I)Z"
abbrev t8 : String := "$assertionsDisabled"
abbrev t9 : String := "(Ljava/util/Collection;)Ljava/util/List;"
abbrev t10 : String := "(IIILjava/util/function/BiFunction;)I"
abbrev t11 : String := "(Ljava/lang/CharSequence;II)Ljava/lang/AbstractStringBuilder;"
abbrev t12 : String := "(Ljava/lang/Object;ILjava/lang/Object;II)V"
abbrev t13 : String := "java/lang/CharSequence"
abbrev t14 : String := "(Ljava/lang/CharSequence;II)Ljava/lang/StringBuilder;"
abbrev t15 : String := "(I)Ljava/lang/Object;"
abbrev t16 : String := "(Ljava/lang/Object;)Ljava/lang/Object;"
abbrev t17 : String := "([Ljava/lang/Object;)Ljava/util/List;"
abbrev t18 : String := "java/io/Serializable"
abbrev t19 : String := "java/util/Collection"
abbrev t20 : String := "()Lcom/example/shelfproof/shelfproof/csv/Csv$Row;"
abbrev t21 : String := "(Ljava/lang/StringBuilder;)V"
abbrev t22 : String := "(Ljava/lang/Object;)Z"
abbrev t23 : String := "()Ljava/lang/String;"
abbrev t24 : String := "([Ljava/lang/Object;I)[Ljava/lang/Object;"
abbrev t25 : String := "java/io/PrintStream"
abbrev t26 : String := "(Ljava/lang/Object;Ljava/lang/Object;)V"
abbrev t27 : String := "()Ljava/util/List;"
abbrev t28 : String := "(ILjava/util/List;Ljava/lang/String;)V"
abbrev t29 : String := "java/util/AbstractCollection"
abbrev t30 : String := "([Ljava/lang/Object;ILjava/lang/Class;)[Ljava/lang/Object;"
abbrev t31 : String := "(IILjava/util/function/BiFunction;)I"
abbrev t32 : String := "(C)Ljava/lang/AbstractStringBuilder;"
abbrev t33 : String := "java/util/ImmutableCollections$SetN"
abbrev t34 : String := "java/util/ImmutableCollections$MapN"
abbrev t35 : String := "(Ljava/lang/AbstractStringBuilder;Ljava/lang/Void;)V"
abbrev t36 : String := "serialVersionUID"
abbrev t37 : String := "java/lang/constant/ConstantDesc"
abbrev t38 : String := "Ljava/util/function/BiFunction;"
abbrev t39 : String := "java/util/RandomAccess"
abbrev t40 : String := "java/util/SequencedCollection"
abbrev t41 : String := "(C)Ljava/lang/String;"
abbrev t42 : String := "(C)Ljava/lang/StringBuilder;"
abbrev t43 : String := "java/lang/constant/Constable"
abbrev t44 : String := "length"
abbrev t45 : String := "java/lang/Comparable"
abbrev t46 : String := "java/lang/Appendable"
abbrev t47 : String := "(Ljava/lang/Object;[Ljava/lang/Object;I)V"
abbrev t48 : String := "checkBoundsOffCount"
abbrev t49 : String := "checkIndex"
abbrev t50 : String := "java/io/InputStream"
abbrev t51 : String := "Ljava/util/ImmutableCollections$ListN;"
abbrev t52 : String := "java/util/Objects"
abbrev t53 : String := "([Ljava/lang/Object;Z)V"
abbrev t54 : String := "isEmpty"
abbrev t55 : String := "java/lang/System"
abbrev t56 : String := "jdk/internal/access/JavaLangAccess"
abbrev t57 : String := "DEFAULTCAPACITY_EMPTY_ELEMENTDATA"
abbrev t58 : String := "(Ljava/lang/String;)V"
abbrev t59 : String := "(Ljava/lang/Object;)V"
abbrev t60 : String := "java/lang/Class"
abbrev t61 : String := "jdk/internal/util/ArraysSupport"
abbrev t62 : String := "java/lang/Math"
abbrev t63 : String := "requireNonNull"
abbrev t64 : String := "()Ljava/lang/Class;"
abbrev t65 : String := "java/lang/Cloneable"
abbrev t66 : String := "checkFromIndexSize"
abbrev t67 : String := "([BI[BII)V"
abbrev t68 : String := "java/lang/Iterable"
abbrev t69 : String := "coderFromArrayLen"
def u (s : String) : CpInfo := .utf8 (stringToUtf16 s)
def gap : Nat → List CpInfo → List CpInfo
  | 0, r => r
  | n + 1, r => .unusable :: gap n r
def poolList (es : List (Nat × CpInfo)) (last : Nat) : List CpInfo := es.foldr (fun e r => gap e.1 (e.2 :: r)) (gap last [])
def pool (es : List (Nat × CpInfo)) (last : Nat) : Array CpInfo := ⟨poolList es last⟩
def fileOf (pool : Array CpInfo) (this : Nat) (attrs : Array Attribute := #[]) (ms : Array MethodInfo := #[]) (fl : Nat := 33) (sup : Nat := 0) (ifs : Array Nat := #[]) (fds : Array FieldInfo := #[]) : ClassFile where
  minorVersion := 0
  majorVersion := 65
  constantPool := pool
  accessFlags := fl
  thisClass := this
  superClass := sup
  interfaces := ifs
  fields := fds
  methods := ms
  attributes := attrs
def plain (name : String) (sup : Option ClassId) : Class where
  name := name
  kind := .ordinary
  loader := none
  accessFlags := 33
  super := sup
  interfaces := #[]
  cf := none
  fields := #[]
  methods := #[]
  instanceTypes := #[]
  staticTypes := #[]
  resolved := #[]
  callSites := []
  init := .initialized
  statics := none
  mirror := none
def pool0 : Array CpInfo := pool [(5, u t1), (0, u t5), (1, .class_ 10), (1, u sN6), (0, u "getClass"), (0, u t64)] 111
def k0c0 : Code := ⟨0, 1, object_method_1_code, #[], #[]⟩
def k0m0 : Method := ⟨t1, t5, ⟨[], none⟩, 1, some k0c0⟩
def k0m1 : Method := ⟨"getClass", t64, ⟨[], some (.object t60)⟩, 273, none⟩
def k0 : Class := { plain sN6 none with
  accessFlags := 33
  cf := some (fileOf pool0 8 #[] #[⟨1, 5, 6, #[]⟩, ⟨273, 11, 12, #[]⟩] 33 0 #[] #[])
  methods := #[k0m0, k0m1]
  resolved := Array.replicate 124 none }
def pool1 : Array CpInfo := pool [(2, .class_ 4), (1, u sN6), (0, u t1), (0, u t5), (0, .methodref 8 9), (0, .class_ 10), (0, .nameAndType 11 12), (0, u sN10), (0, u "ord"), (0, u "(I)C"), (0, .integer 65279), (0, .class_ 15), (0, u sN1), (0, .class_ 17), (0, u sN2), (0, .methodref 16 19), (0, .nameAndType 5 20), (0, u "([C)V"), (0, .methodref 14 22), (0, .nameAndType 5 23), (0, u t58), (0, .methodref 14 25), (0, .nameAndType 26 27), (0, u "next"), (0, u t20), (0, .methodref 8 29), (0, .nameAndType 30 31), (0, u "check"), (0, u t7), (0, .methodref 8 33), (0, .nameAndType 34 35), (0, u "str1"), (0, u t41), (0, .string 37), (0, u ""), (0, .methodref 8 39), (0, .nameAndType 40 41), (0, u "str2"), (0, u "(CC)Ljava/lang/String;"), (0, .methodref 8 43), (0, .nameAndType 44 45), (0, u "str3"), (0, u "(CCC)Ljava/lang/String;"), (0, .methodref 8 47), (0, .nameAndType 48 49), (0, u "str4"), (0, u "(CCCC)Ljava/lang/String;"), (0, .methodref 16 51), (0, .nameAndType 52 35), (0, u "valueOf"), (0, .methodref 54 55), (0, .class_ 56), (0, .nameAndType 57 58), (0, u sN3), (0, u "line"), (0, u "()I"), (0, .methodref 54 60), (0, .nameAndType 61 62), (0, u "fields"), (0, u t27), (0, .interfaceMethodref 64 65), (0, .class_ 66), (0, .nameAndType 67 58), (0, u sN13), (0, u "size"), (0, .interfaceMethodref 64 69), (0, .nameAndType 70 71), (0, u "get"), (0, u t15), (0, .methodref 16 73), (0, .nameAndType 74 75), (0, u "equals"), (0, u t22), (0, .methodref 54 77), (0, .nameAndType 78 79), (0, u "fault"), (0, u t23), (0, .string 81), (0, u "text after closing quote"), (0, .string 83), (0, u "unclosed quote"), (2, u "law"), (0, u "(IIII)Z")] 7
def k1m0 : Method := ⟨t1, t5, ⟨[], none⟩, 2, none⟩
def k1c1 : Code := ⟨7, 37, code, #[], #[]⟩
def k1m1 : Method := ⟨"law", "(IIII)Z", ⟨[.int, .int, .int, .int], some .boolean⟩, 9, some k1c1⟩
def k1c2 : Code := ⟨2, 2, method_3_code, #[], #[]⟩
def k1m2 : Method := ⟨"ord", "(I)C", ⟨[.int], some .char⟩, 10, some k1c2⟩
def k1c3 : Code := ⟨1, 1, method_4_code, #[], #[]⟩
def k1m3 : Method := ⟨"str1", t41, ⟨[.char], some (.object sN2)⟩, 10, some k1c3⟩
def k1c4 : Code := ⟨6, 2, method_5_code, #[], #[]⟩
def k1m4 : Method := ⟨"str2", "(CC)Ljava/lang/String;", ⟨[.char, .char], some (.object sN2)⟩, 10, some k1c4⟩
def k1c5 : Code := ⟨6, 3, method_6_code, #[], #[]⟩
def k1m5 : Method := ⟨"str3", "(CCC)Ljava/lang/String;", ⟨[.char, .char, .char], some (.object sN2)⟩, 10, some k1c5⟩
def k1c6 : Code := ⟨6, 4, method_7_code, #[], #[]⟩
def k1m6 : Method := ⟨"str4", "(CCCC)Ljava/lang/String;", ⟨[.char, .char, .char, .char], some (.object sN2)⟩, 10, some k1c6⟩
def k1c7 : Code := ⟨2, 9, method_8_code, #[], #[]⟩
def k1m7 : Method := ⟨"check", t7, ⟨[(.object sN3), .int, .int, (.object sN2), (.object sN2), (.object sN2), .int], some .boolean⟩, 10, some k1c7⟩
def k1 : Class := { plain sN10 (some 0) with
  accessFlags := 49
  cf := some (fileOf pool1 8 #[] #[⟨2, 5, 6, #[]⟩, ⟨9, 86, 87, #[]⟩, ⟨10, 11, 12, #[]⟩, ⟨10, 34, 35, #[]⟩, ⟨10, 40, 41, #[]⟩, ⟨10, 44, 45, #[]⟩, ⟨10, 48, 49, #[]⟩, ⟨10, 30, 31, #[]⟩] 49 2 #[] #[])
  methods := #[k1m0, k1m1, k1m2, k1m3, k1m4, k1m5, k1m6, k1m7]
  resolved := Array.replicate 95 none }
def pool2 : Array CpInfo := pool [(1, .methodref 2 3), (0, .class_ 4), (0, .nameAndType 5 6), (0, u sN6), (0, u t1), (0, u t5), (0, .fieldref 8 9), (0, .class_ 10), (0, .nameAndType 11 12), (0, u sN1), (0, u "m_line"), (0, u "I"), (0, .fieldref 8 14), (0, .nameAndType 15 16), (0, u "m_text"), (0, u sN9), (0, .methodref 18 19), (0, .class_ 20), (0, .nameAndType 21 22), (0, u sN2), (0, u t54), (0, u "()Z"), (0, .integer 65279), (0, .methodref 18 25), (0, .nameAndType 26 27), (0, u "charAt"), (0, u "(I)C"), (0, .fieldref 8 29), (0, .nameAndType 30 12), (0, u "m_at"), (0, .class_ 32), (0, u sN14), (0, .methodref 31 3), (5, u "()I"), (4, .methodref 31 45), (0, .nameAndType 46 47), (0, u "append"), (0, u t42), (17, .methodref 31 66), (0, .nameAndType 67 68), (0, u "toString"), (0, u t23), (0, .methodref 18 70), (0, .nameAndType 71 39), (0, u t44), (0, .class_ 73), (0, u sN7), (0, .methodref 72 3), (0, .methodref 8 76), (0, .nameAndType 77 22), (0, u "endOfLine"), (0, .class_ 79), (0, u sN3), (0, .methodref 78 81), (0, .nameAndType 5 82), (0, u t28), (0, .methodref 8 84), (0, .nameAndType 85 86), (0, u "at"), (0, u "(C)Z"), (0, .methodref 8 88), (0, .nameAndType 89 90), (0, u "quoted"), (0, u "(Ljava/lang/StringBuilder;)Z"), (0, .methodref 72 92), (0, .nameAndType 93 94), (0, u "add"), (0, u t22), (0, .string 96), (0, u "unclosed quote"), (0, .methodref 8 98), (0, .nameAndType 99 22), (0, u "atEndOfLine"), (0, .string 101), (0, u "text after closing quote"), (0, .methodref 8 103), (0, .nameAndType 104 105), (0, u "unquoted"), (0, u t21), (0, .methodref 31 107), (0, .nameAndType 46 108), (0, u t14), (0, u "TEXT_AFTER_QUOTE"), (1, u "UNCLOSED_QUOTE"), (0, u "BYTE_ORDER_MARK"), (0, u "C"), (0, u t58), (7, u "next"), (0, u t20)] 5
def k2c0 : Code := ⟨4, 2, prog_4_method_1_code, #[], #[]⟩
def k2m0 : Method := ⟨t1, t58, ⟨[(.object sN2)], none⟩, 1, some k2c0⟩
def k2c1 : Code := ⟨5, 5, prog_4_method_4_code, #[], #[]⟩
def k2m1 : Method := ⟨"next", t20, ⟨[], some (.object sN3)⟩, 1, some k2c1⟩
def k2c2 : Code := ⟨3, 3, prog_4_method_5_code, #[], #[]⟩
def k2m2 : Method := ⟨"quoted", "(Ljava/lang/StringBuilder;)Z", ⟨[(.object sN14)], some .boolean⟩, 2, some k2c2⟩
def k2c3 : Code := ⟨4, 3, prog_4_method_6_code, #[], #[]⟩
def k2m3 : Method := ⟨"unquoted", t21, ⟨[(.object sN14)], none⟩, 2, some k2c3⟩
def k2c4 : Code := ⟨4, 1, prog_4_method_7_code, #[], #[]⟩
def k2m4 : Method := ⟨"endOfLine", "()Z", ⟨[], some .boolean⟩, 2, some k2c4⟩
def k2c5 : Code := ⟨4, 1, prog_4_method_8_code, #[], #[]⟩
def k2m5 : Method := ⟨"atEndOfLine", "()Z", ⟨[], some .boolean⟩, 2, some k2c5⟩
def k2c6 : Code := ⟨3, 2, prog_4_method_9_code, #[], #[]⟩
def k2m6 : Method := ⟨"at", "(C)Z", ⟨[.char], some .boolean⟩, 2, some k2c6⟩
def k2 : Class := { plain sN1 (some 0) with
  accessFlags := 49
  cf := some (fileOf pool2 8 #[.nestMembers #[78]] #[⟨1, 5, 114, #[]⟩, ⟨1, 122, 123, #[]⟩, ⟨2, 89, 90, #[]⟩, ⟨2, 104, 105, #[]⟩, ⟨2, 77, 22, #[]⟩, ⟨2, 99, 22, #[]⟩, ⟨2, 85, 86, #[]⟩] 49 2 #[] #[⟨26, 109, 16, #[]⟩, ⟨26, 111, 16, #[]⟩, ⟨26, 112, 113, #[]⟩, ⟨18, 15, 16, #[]⟩, ⟨2, 30, 12, #[]⟩, ⟨2, 11, 12, #[]⟩])
  fields := #[⟨"TEXT_AFTER_QUOTE", (.object sN2), 26, 0, 0⟩, ⟨"UNCLOSED_QUOTE", (.object sN2), 26, 1, 0⟩, ⟨"BYTE_ORDER_MARK", .char, 26, 2, 0⟩, ⟨"m_text", (.object sN2), 18, 0, 0⟩, ⟨"m_at", .int, 2, 1, 0⟩, ⟨"m_line", .int, 2, 2, 0⟩]
  methods := #[k2m0, k2m1, k2m2, k2m3, k2m4, k2m5, k2m6]
  instanceTypes := #[(.object sN2), .int, .int]
  staticTypes := #[(.object sN2), (.object sN2), .char]
  resolved := Array.replicate 129 none }
def pool3 : Array CpInfo := pool [(1, .class_ 2), (0, u t18), (0, .class_ 4), (0, u sN6)] 2
def k3 : Class := { plain t18 (some 0) with
  accessFlags := 1537
  cf := some (fileOf pool3 1 #[] #[] 1537 3 #[] #[])
  resolved := Array.replicate 7 none }
def pool4 : Array CpInfo := pool [(1, .class_ 2), (0, u t45), (0, .class_ 4), (0, u sN6)] 7
def k4 : Class := { plain t45 (some 0) with
  accessFlags := 1537
  cf := some (fileOf pool4 1 #[] #[] 1537 3 #[] #[])
  resolved := Array.replicate 12 none }
def pool5 : Array CpInfo := pool [(2, .class_ 4), (1, u t13), (0, u t44), (0, u "()I"), (40, .class_ 48), (0, u "java/lang/CharSequence$1CodePointIterator"), (10, .class_ 60), (0, u "java/lang/CharSequence$1CharIterator"), (5, .class_ 67), (0, u sN6)] 63
def k5m0 : Method := ⟨t44, "()I", ⟨[], some .int⟩, 1025, none⟩
def k5 : Class := { plain t13 (some 0) with
  accessFlags := 1537
  cf := some (fileOf pool5 2 #[.nestMembers #[47, 59]] #[⟨1025, 5, 6, #[]⟩] 1537 66 #[] #[])
  methods := #[k5m0]
  resolved := Array.replicate 131 none }
def pool6 : Array CpInfo := pool [(1, .class_ 2), (0, u t43), (0, .class_ 4), (0, u sN6)] 6
def k6 : Class := { plain t43 (some 0) with
  accessFlags := 1537
  cf := some (fileOf pool6 1 #[] #[] 1537 3 #[] #[])
  resolved := Array.replicate 11 none }
def pool7 : Array CpInfo := pool [(1, .class_ 2), (0, u t37), (0, .class_ 4), (0, u sN6)] 32
def k7 : Class := { plain t37 (some 0) with
  accessFlags := 1537
  cf := some (fileOf pool7 1 #[] #[] 1537 3 #[] #[])
  resolved := Array.replicate 37 none }
def pool8 : Array CpInfo := pool [(1, .methodref 2 3), (0, .class_ 4), (0, .nameAndType 5 6), (0, u sN6), (0, u t1), (0, u t5), (2, .fieldref 10 11), (0, .class_ 12), (0, .nameAndType 13 14), (0, u sN2), (0, u "value"), (0, u "[B"), (0, .fieldref 10 16), (0, .nameAndType 17 18), (0, u "coder"), (0, u "B"), (2, u "hash"), (0, u "I"), (2, u "hashIsZero"), (0, u "Z"), (0, .methodref 10 28), (0, .nameAndType 5 29), (0, u "([CIILjava/lang/Void;)V"), (6, u t48), (0, u "(III)I"), (0, .fieldref 10 39), (0, .nameAndType 40 26), (0, u "COMPACT_STRINGS"), (1, .class_ 44), (1, u sN11), (0, u "compress"), (1, .methodref 42 48), (0, .nameAndType 49 50), (0, u t69), (0, u "([BI)B"), (2, u "toBytes"), (0, .methodref 55 56), (0, .class_ 57), (0, .nameAndType 58 59), (0, u sN21), (0, u "copyOfRange"), (0, u "([BII)[B"), (47, .class_ 109), (1, u sN18), (32, u "()Z"), (34, .methodref 42 178), (0, .nameAndType 45 179), (0, u "([CII)[B"), (29, .methodref 10 210), (0, .nameAndType 5 211), (0, u "([BB)V"), (122, u "()I"), (0, .methodref 10 336), (0, .nameAndType 17 337), (0, u "()B"), (2, u "()[B"), (22, u "([BI)C"), (5, u "(C)Z"), (21, u "(II)V"), (35, u "(I)C"), (61, .methodref 10 490), (0, .nameAndType 5 491), (0, u t35), (0, .methodref 10 493), (0, .nameAndType 494 142), (0, u "isLatin1"), (0, .methodref 107 496), (0, .nameAndType 497 363), (0, u "charAt"), (0, .methodref 42 496), (2, u t49), (4, .nameAndType 507 334), (0, u t44), (33, .methodref 107 542), (0, .nameAndType 543 544), (0, u "equals"), (0, u "([B[B)Z"), (4, .methodref 550 506), (0, .class_ 551), (0, u sN4), (0, .methodref 550 553), (0, .nameAndType 554 340), (0, u "getValue"), (18, u t22), (1, .class_ 576), (0, u t13), (22, u "CASE_INSENSITIVE_ORDER"), (0, u "Ljava/util/Comparator;"), (91, u t54), (89, u "valueOf"), (0, u t41), (226, u "([C)V"), (4, .methodref 107 1016), (0, .nameAndType 1017 369), (0, u "canEncode"), (0, .methodref 107 1019), (0, .nameAndType 53 1020), (0, u "(C)[B"), (0, .methodref 42 1019), (25, .methodref 550 493), (0, .fieldref 550 1049), (0, .nameAndType 1050 26), (0, u "maybeLatin1"), (2, .fieldref 1054 1055), (0, .class_ 1056), (0, .nameAndType 1057 1058), (0, u sN17), (0, u "SIOOBE_FORMATTER"), (0, u t38), (0, .methodref 1054 1060), (0, .nameAndType 501 1061), (0, u t31), (2, u t10), (0, .methodref 1054 1066), (0, .nameAndType 1067 1064), (0, u t66), (33, u "serialPersistentFields"), (0, u "[Ljava/io/ObjectStreamField;"), (0, .class_ 1104), (0, u "java/lang/String$CaseInsensitiveComparator"), (1, .class_ 1107), (0, u t18), (0, .class_ 1109), (0, u t45), (0, .class_ 1111), (0, u t43), (0, .class_ 1113), (0, u t37), (2, u t36), (0, u "J"), (3, u "REPL"), (0, u "C"), (2, u "LATIN1"), (1, u "UTF16"), (105, u t21)] 217
def k8m0 : Method := ⟨t1, t5, ⟨[], none⟩, 1, none⟩
def k8c1 : Code := ⟨5, 2, jdk_42_method_3_code, #[], #[]⟩
def k8m1 : Method := ⟨t1, "([C)V", ⟨[(.array .char)], none⟩, 1, some k8c1⟩
def k8c2 : Code := ⟨3, 2, jdk_42_method_53_code, #[], #[]⟩
def k8m2 : Method := ⟨t1, t21, ⟨[(.object sN14)], none⟩, 1, some k8c2⟩
def k8c3 : Code := ⟨2, 1, jdk_42_method_54_code, #[], #[]⟩
def k8m3 : Method := ⟨t44, "()I", ⟨[], some .int⟩, 1, some k8c3⟩
def k8c4 : Code := ⟨1, 1, jdk_42_method_55_code, #[], #[]⟩
def k8m4 : Method := ⟨t54, "()Z", ⟨[], some .boolean⟩, 1, some k8c4⟩
def k8c5 : Code := ⟨2, 2, jdk_42_method_56_code, #[], #[]⟩
def k8m5 : Method := ⟨"charAt", "(I)C", ⟨[.int], some .char⟩, 1, some k8c5⟩
def k8c6 : Code := ⟨2, 3, jdk_42_method_66_code, #[], #[]⟩
def k8m6 : Method := ⟨"equals", t22, ⟨[(.object sN6)], some .boolean⟩, 1, some k8c6⟩
def k8c7 : Code := ⟨4, 1, jdk_42_method_139_code, #[], #[]⟩
def k8m7 : Method := ⟨"valueOf", t41, ⟨[.char], some (.object sN2)⟩, 9, some k8c7⟩
def k8c8 : Code := ⟨4, 6, jdk_42_method_149_code, #[], #[]⟩
def k8m8 : Method := ⟨t1, "([CIILjava/lang/Void;)V", ⟨[(.array .char), .int, .int, (.object "java/lang/Void")], none⟩, 2, some k8c8⟩
def k8c9 : Code := ⟨5, 5, jdk_42_method_150_code, #[], #[]⟩
def k8m9 : Method := ⟨t1, t35, ⟨[(.object sN4), (.object "java/lang/Void")], none⟩, 0, some k8c9⟩
def k8c10 : Code := ⟨2, 3, jdk_42_method_151_code, #[], #[]⟩
def k8m10 : Method := ⟨t1, "([BB)V", ⟨[(.array .byte), .byte], none⟩, 0, some k8c10⟩
def k8c11 : Code := ⟨1, 1, jdk_42_method_152_code, #[], #[]⟩
def k8m11 : Method := ⟨"coder", "()B", ⟨[], some .byte⟩, 0, some k8c11⟩
def k8c12 : Code := ⟨1, 1, jdk_42_method_153_code, #[], #[]⟩
def k8m12 : Method := ⟨"value", "()[B", ⟨[], some (.array .byte)⟩, 0, some k8c12⟩
def k8c13 : Code := ⟨1, 1, jdk_42_method_154_code, #[], #[]⟩
def k8m13 : Method := ⟨"isLatin1", "()Z", ⟨[], some .boolean⟩, 0, some k8c13⟩
def k8c14 : Code := ⟨3, 2, jdk_42_method_155_code, #[], #[]⟩
def k8m14 : Method := ⟨t49, "(II)V", ⟨[.int, .int], none⟩, 8, some k8c14⟩
def k8c15 : Code := ⟨4, 3, jdk_42_method_157_code, #[], #[]⟩
def k8m15 : Method := ⟨t48, "(III)I", ⟨[.int, .int, .int], some .int⟩, 8, some k8c15⟩
def k8 : Class := { plain sN2 (some 0) with
  accessFlags := 49
  interfaces := #[3, 4, 5, 6, 7]
  cf := some (fileOf pool8 10 #[.nestMembers #[1103]] #[⟨1, 5, 6, #[]⟩, ⟨1, 5, 1010, #[]⟩, ⟨1, 5, 1233, #[]⟩, ⟨1, 507, 334, #[]⟩, ⟨1, 692, 142, #[]⟩, ⟨1, 497, 427, #[]⟩, ⟨1, 543, 573, #[]⟩, ⟨9, 782, 783, #[]⟩, ⟨2, 5, 29, #[]⟩, ⟨0, 5, 491, #[]⟩, ⟨0, 5, 211, #[]⟩, ⟨0, 17, 337, #[]⟩, ⟨0, 13, 340, #[]⟩, ⟨0, 494, 142, #[]⟩, ⟨8, 501, 391, #[]⟩, ⟨8, 36, 37, #[]⟩] 49 2 #[1106, 1108, 575, 1110, 1112] #[⟨18, 13, 14, #[]⟩, ⟨18, 17, 18, #[]⟩, ⟨2, 21, 22, #[]⟩, ⟨2, 25, 26, #[]⟩, ⟨26, 1116, 1117, #[]⟩, ⟨24, 40, 26, #[]⟩, ⟨26, 1101, 1102, #[]⟩, ⟨26, 1121, 1122, #[]⟩, ⟨25, 599, 600, #[]⟩, ⟨24, 1125, 18, #[]⟩, ⟨24, 1127, 18, #[]⟩])
  fields := #[⟨"value", (.array .byte), 18, 0, 0⟩, ⟨"coder", .byte, 18, 1, 0⟩, ⟨"hash", .int, 2, 2, 0⟩, ⟨"hashIsZero", .boolean, 2, 3, 0⟩, ⟨t36, .long, 26, 0, 0⟩, ⟨"COMPACT_STRINGS", .boolean, 24, 1, 0⟩, ⟨"serialPersistentFields", (.array (.object "java/io/ObjectStreamField")), 26, 2, 0⟩, ⟨"REPL", .char, 26, 3, 0⟩, ⟨"CASE_INSENSITIVE_ORDER", (.object "java/util/Comparator"), 25, 4, 0⟩, ⟨"LATIN1", .byte, 24, 5, 0⟩, ⟨"UTF16", .byte, 24, 6, 0⟩]
  methods := #[k8m0, k8m1, k8m2, k8m3, k8m4, k8m5, k8m6, k8m7, k8m8, k8m9, k8m10, k8m11, k8m12, k8m13, k8m14, k8m15]
  instanceTypes := #[(.array .byte), .byte, .int, .boolean]
  staticTypes := #[.long, .boolean, (.array (.object "java/io/ObjectStreamField")), .char, (.object "java/util/Comparator"), .byte, .byte]
  resolved := Array.replicate 1451 none
  statics := some 0 }
def pool9 : Array CpInfo := pool [(3, .class_ 4), (0, u sN2), (1, .class_ 8), (1, u sN6), (0, u t1), (0, u t5), (0, .methodref 12 13), (0, .class_ 14), (0, .nameAndType 15 16), (0, u sN11), (0, u "newBytesLength"), (0, u "(I)I"), (3, .integer 1073741823), (23, .fieldref 12 45), (0, .nameAndType 46 47), (0, u t8), (0, u "Z"), (0, .methodref 12 49), (0, .nameAndType 50 51), (0, u t44), (0, u "([B)I"), (7, .fieldref 12 60), (0, .nameAndType 61 62), (0, u "HI_BYTE_SHIFT"), (0, u "I"), (0, .fieldref 12 64), (0, .nameAndType 65 62), (0, u "LO_BYTE_SHIFT"), (1, .methodref 12 68), (0, .nameAndType 69 70), (0, u t49), (0, u "(I[B)V"), (0, .methodref 12 72), (0, .nameAndType 73 74), (0, u "getChar"), (0, u "([BI)C"), (24, u "(II[B)V"), (7, .methodref 12 108), (0, .nameAndType 109 110), (0, u "newBytesFor"), (0, u "(I)[B"), (0, .methodref 12 112), (0, .nameAndType 113 114), (0, u "putChar"), (0, u "([BII)V"), (0, .methodref 12 116), (0, .nameAndType 117 118), (0, u "compress"), (0, u "([CI[BII)I"), (0, .methodref 12 120), (0, .nameAndType 121 122), (0, u "toBytes"), (0, u "([CII)[B"), (17, u "inflate"), (0, u t67), (31, .methodref 12 174), (0, .nameAndType 175 99), (0, u t48), (85, u t69), (0, u "([BI)B"), (18, u "(III)I"), (87, .class_ 371), (1, u "java/lang/StringUTF16$LinesSpliterator"), (20, u "charAt"), (21, .methodref 3 415), (0, .nameAndType 69 416), (0, u "(II)V"), (2, .methodref 3 420), (0, .nameAndType 175 281), (9, u "MAX_LENGTH"), (44, u "(C)[B"), (110, u "putCharSB"), (40, .class_ 628), (0, u "java/lang/StringUTF16$CodePointsSpliterator"), (0, .class_ 630), (0, u "java/lang/StringUTF16$CharsSpliterator")] 4
def k9m0 : Method := ⟨t1, t5, ⟨[], none⟩, 0, none⟩
def k9c1 : Code := ⟨1, 1, jdk_52_method_2_code, #[], #[]⟩
def k9m1 : Method := ⟨"newBytesFor", "(I)[B", ⟨[.int], some (.array .byte)⟩, 9, some k9c1⟩
def k9c2 : Code := ⟨4, 1, jdk_52_method_3_code, #[], #[]⟩
def k9m2 : Method := ⟨"newBytesLength", "(I)I", ⟨[.int], some .int⟩, 9, some k9c2⟩
def k9c3 : Code := ⟨4, 3, jdk_52_method_4_code, #[], #[]⟩
def k9m3 : Method := ⟨"putChar", "([BII)V", ⟨[(.array .byte), .int, .int], none⟩, 8, some k9c3⟩
def k9c4 : Code := ⟨3, 2, jdk_52_method_5_code, #[], #[]⟩
def k9m4 : Method := ⟨"getChar", "([BI)C", ⟨[(.array .byte), .int], some .char⟩, 8, some k9c4⟩
def k9c5 : Code := ⟨2, 1, jdk_52_method_6_code, #[], #[]⟩
def k9m5 : Method := ⟨t44, "([B)I", ⟨[(.array .byte)], some .int⟩, 9, some k9c5⟩
def k9c6 : Code := ⟨4, 5, jdk_52_method_14_code, #[], #[]⟩
def k9m6 : Method := ⟨"toBytes", "([CII)[B", ⟨[(.array .char), .int, .int], some (.array .byte)⟩, 9, some k9c6⟩
def k9c7 : Code := ⟨2, 2, jdk_52_method_15_code, #[], #[]⟩
def k9m7 : Method := ⟨t69, "([BI)B", ⟨[(.array .byte), .int], some .byte⟩, 8, some k9c7⟩
def k9c8 : Code := ⟨5, 6, jdk_52_method_16_code, #[], #[]⟩
def k9m8 : Method := ⟨"compress", "([CII)[B", ⟨[(.array .char), .int, .int], some (.array .byte)⟩, 9, some k9c8⟩
def k9c9 : Code := ⟨3, 7, jdk_52_method_21_code, #[], #[]⟩
def k9m9 : Method := ⟨"compress", "([CI[BII)I", ⟨[(.array .char), .int, (.array .byte), .int, .int], some .int⟩, 9, some k9c9⟩
def k9c10 : Code := ⟨3, 2, jdk_52_method_24_code, #[], #[]⟩
def k9m10 : Method := ⟨"toBytes", "(C)[B", ⟨[.char], some (.array .byte)⟩, 9, some k9c10⟩
def k9c11 : Code := ⟨3, 3, jdk_52_method_71_code, #[], #[]⟩
def k9m11 : Method := ⟨"putCharSB", "([BII)V", ⟨[(.array .byte), .int, .int], none⟩, 9, some k9c11⟩
def k9c12 : Code := ⟨2, 2, jdk_52_method_83_code, #[], #[]⟩
def k9m12 : Method := ⟨"charAt", "([BI)C", ⟨[(.array .byte), .int], some .char⟩, 9, some k9c12⟩
def k9c13 : Code := ⟨4, 6, jdk_52_method_86_code, #[], #[]⟩
def k9m13 : Method := ⟨"inflate", t67, ⟨[(.array .byte), .int, (.array .byte), .int, .int], none⟩, 9, some k9c13⟩
def k9c14 : Code := ⟨2, 2, jdk_52_method_91_code, #[], #[]⟩
def k9m14 : Method := ⟨t49, "(I[B)V", ⟨[.int, (.array .byte)], none⟩, 9, some k9c14⟩
def k9c15 : Code := ⟨3, 3, jdk_52_method_94_code, #[], #[]⟩
def k9m15 : Method := ⟨t48, "(II[B)V", ⟨[.int, .int, (.array .byte)], none⟩, 9, some k9c15⟩
def k9 : Class := { plain sN11 (some 0) with
  accessFlags := 48
  cf := some (fileOf pool9 12 #[.nestMembers #[627, 629, 369]] #[⟨0, 9, 10, #[]⟩, ⟨9, 109, 110, #[]⟩, ⟨9, 15, 16, #[]⟩, ⟨8, 113, 114, #[]⟩, ⟨8, 73, 74, #[]⟩, ⟨9, 50, 51, #[]⟩, ⟨9, 121, 122, #[]⟩, ⟨8, 261, 262, #[]⟩, ⟨9, 117, 122, #[]⟩, ⟨9, 117, 118, #[]⟩, ⟨9, 121, 475, #[]⟩, ⟨9, 586, 114, #[]⟩, ⟨9, 392, 74, #[]⟩, ⟨9, 140, 141, #[]⟩, ⟨9, 69, 70, #[]⟩, ⟨9, 175, 99, #[]⟩] 48 6 #[] #[⟨26, 61, 62, #[]⟩, ⟨26, 65, 62, #[]⟩, ⟨24, 430, 62, #[]⟩, ⟨4120, 46, 47, #[]⟩])
  fields := #[⟨"HI_BYTE_SHIFT", .int, 26, 0, 0⟩, ⟨"LO_BYTE_SHIFT", .int, 26, 1, 0⟩, ⟨"MAX_LENGTH", .int, 24, 2, 0⟩, ⟨t8, .boolean, 4120, 3, 0⟩]
  methods := #[k9m0, k9m1, k9m2, k9m3, k9m4, k9m5, k9m6, k9m7, k9m8, k9m9, k9m10, k9m11, k9m12, k9m13, k9m14, k9m15]
  staticTypes := #[.int, .int, .int, .boolean]
  resolved := Array.replicate 635 none
  statics := some 1 }
def pool10 : Array CpInfo := pool [(1, .class_ 2), (0, u sN2), (1, .class_ 6), (1, u sN6), (0, u t1), (0, u t5), (0, .methodref 1 10), (0, .nameAndType 11 12), (0, u t49), (0, u "(II)V"), (1, .class_ 16), (1, u sN18), (0, u "inflate"), (2, .class_ 22), (1, u sN11), (3, .nameAndType 17 27), (0, u t67), (25, u "([BI)C"), (36, u "canEncode"), (14, u "(C)Z"), (15, u t8), (0, u "Z"), (98, .class_ 223), (1, u "java/lang/StringLatin1$LinesSpliterator"), (16, .methodref 20 26), (11, u "charAt"), (28, u "equals"), (0, u "([B[B)Z"), (97, u "toBytes"), (1, u "(C)[B"), (7, .class_ 391), (0, u "java/lang/StringLatin1$CharsSpliterator")] 3
def k10m0 : Method := ⟨t1, t5, ⟨[], none⟩, 0, none⟩
def k10c1 : Code := ⟨2, 2, jdk_43_method_2_code, #[], #[]⟩
def k10m1 : Method := ⟨"charAt", "([BI)C", ⟨[(.array .byte), .int], some .char⟩, 9, some k10c1⟩
def k10c2 : Code := ⟨2, 1, jdk_43_method_3_code, #[], #[]⟩
def k10m2 : Method := ⟨"canEncode", "(C)Z", ⟨[.char], some .boolean⟩, 9, some k10c2⟩
def k10c3 : Code := ⟨3, 3, jdk_43_method_13_code, #[], #[]⟩
def k10m3 : Method := ⟨"equals", "([B[B)Z", ⟨[(.array .byte), (.array .byte)], some .boolean⟩, 9, some k10c3⟩
def k10c4 : Code := ⟨4, 1, jdk_43_method_46_code, #[], #[]⟩
def k10m4 : Method := ⟨"toBytes", "(C)[B", ⟨[.char], some (.array .byte)⟩, 9, some k10c4⟩
def k10c5 : Code := ⟨5, 5, jdk_43_method_50_code, #[], #[]⟩
def k10m5 : Method := ⟨"inflate", t67, ⟨[(.array .byte), .int, (.array .byte), .int, .int], none⟩, 9, some k10c5⟩
def k10 : Class := { plain sN18 (some 0) with
  accessFlags := 48
  cf := some (fileOf pool10 14 #[.nestMembers #[390, 221]] #[⟨0, 7, 8, #[]⟩, ⟨9, 252, 53, #[]⟩, ⟨9, 90, 105, #[]⟩, ⟨9, 281, 282, #[]⟩, ⟨9, 380, 382, #[]⟩, ⟨9, 17, 27, #[]⟩] 48 4 #[] #[⟨4120, 121, 122, #[]⟩])
  fields := #[⟨t8, .boolean, 4120, 0, 0⟩]
  methods := #[k10m0, k10m1, k10m2, k10m3, k10m4, k10m5]
  staticTypes := #[.boolean]
  resolved := Array.replicate 395 none }
def pool11 : Array CpInfo := pool [(2, .class_ 4), (1, u sN6), (0, u t1), (0, u t5), (17, .class_ 26), (1, u sN17), (6, u t49), (13, u "checkFromToIndex"), (1, u t66), (5, .class_ 56), (0, u "jdk/internal/util/Preconditions$4"), (57, .class_ 115), (0, u "jdk/internal/util/Preconditions$1"), (7, u "SIOOBE_FORMATTER"), (0, u t38), (0, .class_ 126), (0, u "jdk/internal/util/Preconditions$2"), (3, u "AIOOBE_FORMATTER"), (0, .class_ 132), (0, u "jdk/internal/util/Preconditions$3"), (3, u "IOOBE_FORMATTER"), (41, u t31), (4, u t10)] 10
def k11m0 : Method := ⟨t1, t5, ⟨[], none⟩, 1, none⟩
def k11c1 : Code := ⟨3, 3, jdk_41_method_11_code, #[], #[]⟩
def k11m1 : Method := ⟨t49, t31, ⟨[.int, .int, (.object t2)], some .int⟩, 9, some k11c1⟩
def k11c2 : Code := ⟨4, 4, jdk_41_method_12_code, #[], #[]⟩
def k11m2 : Method := ⟨"checkFromToIndex", t10, ⟨[.int, .int, .int, (.object t2)], some .int⟩, 9, some k11c2⟩
def k11c3 : Code := ⟨4, 4, jdk_41_method_13_code, #[], #[]⟩
def k11m3 : Method := ⟨t66, t10, ⟨[.int, .int, .int, (.object t2)], some .int⟩, 9, some k11c3⟩
def k11 : Class := { plain sN17 (some 0) with
  accessFlags := 33
  cf := some (fileOf pool11 24 #[.nestMembers #[55, 131, 125, 114]] #[⟨1, 5, 6, #[]⟩, ⟨9, 33, 178, #[]⟩, ⟨9, 47, 183, #[]⟩, ⟨9, 49, 183, #[]⟩] 33 2 #[] #[⟨25, 123, 124, #[]⟩, ⟨25, 130, 124, #[]⟩, ⟨25, 136, 124, #[]⟩])
  fields := #[⟨"SIOOBE_FORMATTER", (.object t2), 25, 0, 0⟩, ⟨"AIOOBE_FORMATTER", (.object t2), 25, 1, 0⟩, ⟨"IOOBE_FORMATTER", (.object t2), 25, 2, 0⟩]
  methods := #[k11m0, k11m1, k11m2, k11m3]
  staticTypes := #[(.object t2), (.object t2), (.object t2)]
  resolved := Array.replicate 194 none
  statics := some 2 }
def pool12 : Array CpInfo := pool [(8, .class_ 10), (1, u t68), (24, .class_ 36), (0, u sN6)] 25
def k12 : Class := { plain t68 (some 0) with
  accessFlags := 1537
  cf := some (fileOf pool12 8 #[] #[] 1537 35 #[] #[])
  resolved := Array.replicate 62 none }
def pool13 : Array CpInfo := pool [(10, .class_ 12), (1, u t19), (0, u "toArray"), (16, u "()Z"), (29, .class_ 61), (0, u sN6), (0, .class_ 63), (0, u t68), (2, u t54), (3, u sN19)] 44
def k13m0 : Method := ⟨t54, "()Z", ⟨[], some .boolean⟩, 1025, none⟩
def k13m1 : Method := ⟨"toArray", sN19, ⟨[], some (.array (.object sN6))⟩, 1025, none⟩
def k13 : Class := { plain t19 (some 0) with
  accessFlags := 1537
  interfaces := #[12]
  cf := some (fileOf pool13 10 #[] #[⟨1025, 66, 30, #[]⟩, ⟨1025, 13, 70, #[]⟩] 1537 60 #[62] #[])
  methods := #[k13m0, k13m1]
  resolved := Array.replicate 115 none }
def pool14 : Array CpInfo := pool [(1, .methodref 2 3), (0, .class_ 4), (0, .nameAndType 5 6), (0, u sN6), (0, u t1), (0, u t5), (1, .class_ 10), (1, u t29), (66, .class_ 78), (0, u t19)] 81
def k14c0 : Code := ⟨1, 1, jdk_22_method_1_code, #[], #[]⟩
def k14m0 : Method := ⟨t1, t5, ⟨[], none⟩, 4, some k14c0⟩
def k14 : Class := { plain t29 (some 0) with
  accessFlags := 1057
  interfaces := #[13]
  cf := some (fileOf pool14 8 #[] #[⟨4, 5, 6, #[]⟩] 1057 2 #[77] #[])
  methods := #[k14m0]
  resolved := Array.replicate 160 none }
def pool15 : Array CpInfo := pool [(8, .class_ 10), (1, u t40), (15, .class_ 27), (0, u sN6), (0, .class_ 29), (0, u t19)] 27
def k15 : Class := { plain t40 (some 0) with
  accessFlags := 1537
  interfaces := #[13]
  cf := some (fileOf pool15 8 #[] #[] 1537 26 #[28] #[])
  resolved := Array.replicate 57 none }
def pool16 : Array CpInfo := pool [(8, .class_ 10), (1, u sN13), (20, u t59), (16, u t1), (26, u "get"), (0, u t15), (2, u "size"), (0, u "()I"), (7, u "of"), (1, .fieldref 91 92), (0, .class_ 93), (0, .nameAndType 94 95), (0, u t6), (0, u "EMPTY_LIST"), (0, u t51), (0, .class_ 97), (0, u sN5), (0, .methodref 96 99), (0, .nameAndType 48 31), (0, .methodref 96 101), (0, .nameAndType 48 102), (0, u t26), (0, .class_ 104), (0, u sN6), (3, u t17), (0, .methodref 91 110), (0, .nameAndType 111 108), (0, u "listFromArray"), (0, .methodref 91 113), (0, .nameAndType 114 115), (0, u "listCopy"), (0, u t9), (3, u t27), (0, .class_ 121), (0, u t40), (112, u "copyOf")] 16
def k16m0 : Method := ⟨"size", "()I", ⟨[], some .int⟩, 1025, none⟩
def k16m1 : Method := ⟨"get", t15, ⟨[.int], some (.object sN6)⟩, 1025, none⟩
def k16c2 : Code := ⟨1, 0, jdk_40_method_36_code, #[], #[]⟩
def k16m2 : Method := ⟨"of", t27, ⟨[], some (.object sN13)⟩, 9, some k16c2⟩
def k16c3 : Code := ⟨5, 2, jdk_40_method_47_code, #[], #[]⟩
def k16m3 : Method := ⟨"of", t17, ⟨[(.array (.object sN6))], some (.object sN13)⟩, 137, some k16c3⟩
def k16c4 : Code := ⟨1, 1, jdk_40_method_48_code, #[], #[]⟩
def k16m4 : Method := ⟨"copyOf", t9, ⟨[(.object t19)], some (.object sN13)⟩, 9, some k16c4⟩
def k16 : Class := { plain sN13 (some 0) with
  accessFlags := 1537
  interfaces := #[15]
  cf := some (fileOf pool16 8 #[] #[⟨1025, 79, 80, #[]⟩, ⟨1025, 75, 76, #[]⟩, ⟨9, 88, 119, #[]⟩, ⟨137, 88, 108, #[]⟩, ⟨9, 234, 115, #[]⟩] 1537 103 #[120] #[])
  methods := #[k16m0, k16m1, k16m2, k16m3, k16m4]
  resolved := Array.replicate 251 none }
def pool17 : Array CpInfo := pool [(1, .methodref 2 3), (0, .class_ 4), (0, .nameAndType 5 6), (0, u t29), (0, u t1), (0, u t5), (0, .fieldref 8 9), (0, .class_ 10), (0, .nameAndType 11 12), (0, u sN16), (0, u sN23), (0, u "I"), (64, .class_ 78), (0, u "java/util/AbstractList$Itr"), (3, .class_ 83), (0, u "java/util/AbstractList$ListItr"), (9, .class_ 94), (0, u "java/util/AbstractList$RandomAccessSubList"), (3, .class_ 99), (0, u "java/util/AbstractList$SubList"), (33, .class_ 134), (0, u sN13), (73, .class_ 209), (0, u "java/util/AbstractList$SubList$1"), (0, .class_ 211), (0, u "java/util/AbstractList$RandomAccessSpliterator")] 6
def k17c0 : Code := ⟨2, 1, jdk_39_method_1_code, #[], #[]⟩
def k17m0 : Method := ⟨t1, t5, ⟨[], none⟩, 4, some k17c0⟩
def k17 : Class := { plain sN16 (some 14) with
  accessFlags := 1057
  interfaces := #[16]
  cf := some (fileOf pool17 8 #[.nestMembers #[93, 98, 208, 210, 82, 77]] #[⟨4, 5, 6, #[]⟩] 1057 2 #[133] #[⟨132, 11, 12, #[]⟩])
  fields := #[⟨sN23, .int, 132, 0, 0⟩]
  methods := #[k17m0]
  instanceTypes := #[.int]
  resolved := Array.replicate 218 none }
def pool18 : Array CpInfo := pool [(1, .class_ 2), (0, u t39), (0, .class_ 4), (0, u sN6)] 2
def k18 : Class := { plain t39 (some 0) with
  accessFlags := 1537
  cf := some (fileOf pool18 1 #[] #[] 1537 3 #[] #[])
  resolved := Array.replicate 7 none }
def pool19 : Array CpInfo := pool [(1, .class_ 2), (0, u t65), (0, .class_ 4), (0, u sN6)] 2
def k19 : Class := { plain t65 (some 0) with
  accessFlags := 1537
  cf := some (fileOf pool19 1 #[] #[] 1537 3 #[] #[])
  resolved := Array.replicate 7 none }
def pool20 : Array CpInfo := pool [(1, .methodref 2 3), (0, .class_ 4), (0, .nameAndType 5 6), (0, u sN16), (0, u t1), (0, u t5), (0, .class_ 8), (0, u sN6), (0, .fieldref 10 11), (0, .class_ 12), (0, .nameAndType 13 14), (0, u sN7), (0, u sN20), (0, u sN8), (2, u "EMPTY_ELEMENTDATA"), (21, .fieldref 10 40), (0, .nameAndType 41 14), (0, u t57), (4, u "toArray"), (0, u sN19), (0, .fieldref 10 49), (0, .nameAndType 50 51), (0, u "size"), (0, u "I"), (6, .class_ 60), (1, u sN21), (0, u "copyOf"), (1, .fieldref 10 64), (0, .nameAndType 65 51), (0, u sN23), (0, .methodref 58 67), (0, .nameAndType 61 68), (0, u t24), (0, .methodref 10 70), (0, .nameAndType 71 72), (0, u "grow"), (0, u "(I)[Ljava/lang/Object;"), (6, .methodref 80 81), (0, .class_ 82), (0, .nameAndType 83 84), (0, u t62), (0, u "max"), (0, u "(II)I"), (11, u t22), (32, .methodref 10 130), (0, .nameAndType 71 47), (0, .methodref 10 132), (0, .nameAndType 133 134), (0, u "add"), (0, u t47), (13, .class_ 149), (0, u sN13), (23, u "()Z"), (88, .class_ 263), (0, u "java/util/ArrayList$ListItr"), (3, .class_ 268), (0, u "java/util/ArrayList$Itr"), (7, .class_ 277), (0, u "java/util/ArrayList$SubList"), (12, .class_ 291), (0, u "java/util/ArrayList$ArrayListSpliterator"), (37, .class_ 330), (0, u t39), (0, .class_ 332), (0, u t65), (0, .class_ 334), (0, u t18), (0, u t36), (0, u "J"), (3, u "DEFAULT_CAPACITY"), (22, u t54), (136, .class_ 501), (0, u "java/util/ArrayList$SubList$2"), (0, .class_ 503), (0, u "java/util/ArrayList$SubList$1")] 5
def k20c0 : Code := ⟨2, 1, jdk_38_method_2_code, #[], #[]⟩
def k20m0 : Method := ⟨t1, t5, ⟨[], none⟩, 1, some k20c0⟩
def k20c1 : Code := ⟨4, 4, jdk_38_method_6_code, #[], #[]⟩
def k20m1 : Method := ⟨"grow", "(I)[Ljava/lang/Object;", ⟨[.int], some (.array (.object sN6))⟩, 2, some k20c1⟩
def k20c2 : Code := ⟨3, 1, jdk_38_method_7_code, #[], #[]⟩
def k20m2 : Method := ⟨"grow", sN19, ⟨[], some (.array (.object sN6))⟩, 2, some k20c2⟩
def k20c3 : Code := ⟨1, 1, jdk_38_method_9_code, #[], #[]⟩
def k20m3 : Method := ⟨t54, "()Z", ⟨[], some .boolean⟩, 1, some k20c3⟩
def k20c4 : Code := ⟨2, 1, jdk_38_method_16_code, #[], #[]⟩
def k20m4 : Method := ⟨"toArray", sN19, ⟨[], some (.array (.object sN6))⟩, 1, some k20c4⟩
def k20c5 : Code := ⟨3, 4, jdk_38_method_24_code, #[], #[]⟩
def k20m5 : Method := ⟨"add", t47, ⟨[(.object sN6), (.array (.object sN6)), .int], none⟩, 2, some k20c5⟩
def k20c6 : Code := ⟨4, 2, jdk_38_method_25_code, #[], #[]⟩
def k20m6 : Method := ⟨"add", t22, ⟨[(.object sN6)], some .boolean⟩, 1, some k20c6⟩
def k20 : Class := { plain sN7 (some 17) with
  accessFlags := 33
  interfaces := #[16, 18, 19, 3]
  cf := some (fileOf pool20 10 #[.nestMembers #[290, 276, 500, 502, 262, 267]] #[⟨1, 5, 6, #[]⟩, ⟨2, 71, 72, #[]⟩, ⟨2, 71, 47, #[]⟩, ⟨1, 363, 173, #[]⟩, ⟨1, 46, 47, #[]⟩, ⟨2, 133, 134, #[]⟩, ⟨1, 133, 96, #[]⟩] 33 2 #[148, 329, 331, 333] #[⟨26, 335, 336, #[]⟩, ⟨26, 340, 51, #[]⟩, ⟨26, 17, 14, #[]⟩, ⟨26, 41, 14, #[]⟩, ⟨128, 13, 14, #[]⟩, ⟨2, 50, 51, #[]⟩])
  fields := #[⟨t36, .long, 26, 0, 0⟩, ⟨"DEFAULT_CAPACITY", .int, 26, 1, 0⟩, ⟨"EMPTY_ELEMENTDATA", (.array (.object sN6)), 26, 2, 0⟩, ⟨t57, (.array (.object sN6)), 26, 3, 0⟩, ⟨sN20, (.array (.object sN6)), 128, 1, 0⟩, ⟨"size", .int, 2, 2, 0⟩]
  methods := #[k20m0, k20m1, k20m2, k20m3, k20m4, k20m5, k20m6]
  instanceTypes := #[.int, (.array (.object sN6)), .int]
  staticTypes := #[.long, .int, (.array (.object sN6)), (.array (.object sN6))]
  resolved := Array.replicate 509 none
  statics := some 3 }
def pool21 : Array CpInfo := pool [(1, .methodref 2 3), (0, .class_ 4), (0, .nameAndType 5 6), (0, u sN6), (0, u t1), (0, u t5), (0, .class_ 8), (0, u "java/lang/Record")] 13
def k21c0 : Code := ⟨1, 1, jdk_30_method_1_code, #[], #[]⟩
def k21m0 : Method := ⟨t1, t5, ⟨[], none⟩, 4, some k21c0⟩
def k21 : Class := { plain "java/lang/Record" (some 0) with
  accessFlags := 1057
  cf := some (fileOf pool21 7 #[] #[⟨4, 5, 6, #[]⟩] 1057 2 #[] #[])
  methods := #[k21m0]
  resolved := Array.replicate 22 none }
def pool22 : Array CpInfo := pool [(1, .methodref 2 3), (0, .class_ 4), (0, .nameAndType 5 6), (0, u "java/lang/Record"), (0, u t1), (0, u t5), (0, .interfaceMethodref 8 9), (0, .class_ 10), (0, .nameAndType 11 12), (0, u sN13), (0, u "copyOf"), (0, u t9), (0, .fieldref 14 15), (0, .class_ 16), (0, .nameAndType 17 18), (0, u sN3), (0, u "line"), (0, u "I"), (0, .fieldref 14 20), (0, .nameAndType 21 22), (0, u "fields"), (0, u sN22), (0, .fieldref 14 24), (0, .nameAndType 25 26), (0, u "fault"), (0, u sN9), (14, u t28), (4, u t23), (0, u "()I"), (1, u t27), (4, .class_ 55), (0, u sN1)] 21
def k22c0 : Code := ⟨2, 4, prog_5_method_1_code, #[], #[]⟩
def k22m0 : Method := ⟨t1, t28, ⟨[.int, (.object sN13), (.object sN2)], none⟩, 1, some k22c0⟩
def k22c1 : Code := ⟨1, 1, prog_5_method_5_code, #[], #[]⟩
def k22m1 : Method := ⟨"line", "()I", ⟨[], some .int⟩, 1, some k22c1⟩
def k22c2 : Code := ⟨1, 1, prog_5_method_6_code, #[], #[]⟩
def k22m2 : Method := ⟨"fields", t27, ⟨[], some (.object sN13)⟩, 1, some k22c2⟩
def k22c3 : Code := ⟨1, 1, prog_5_method_7_code, #[], #[]⟩
def k22m3 : Method := ⟨"fault", t23, ⟨[], some (.object sN2)⟩, 1, some k22c3⟩
def k22 : Class := { plain sN3 (some 21) with
  accessFlags := 49
  cf := some (fileOf pool22 14 #[.nestHost 54] #[⟨1, 5, 41, #[]⟩, ⟨1, 17, 47, #[]⟩, ⟨1, 21, 49, #[]⟩, ⟨1, 25, 46, #[]⟩] 49 2 #[] #[⟨18, 17, 18, #[]⟩, ⟨18, 21, 22, #[]⟩, ⟨18, 25, 26, #[]⟩])
  fields := #[⟨"line", .int, 18, 0, 0⟩, ⟨"fields", (.object sN13), 18, 1, 0⟩, ⟨"fault", (.object sN2), 18, 2, 0⟩]
  methods := #[k22m0, k22m1, k22m2, k22m3]
  instanceTypes := #[.int, (.object sN13), (.object sN2)]
  resolved := Array.replicate 77 none }
def pool23 : Array CpInfo := pool [(2, .class_ 4), (1, u sN6), (0, u t1), (0, u t5), (3, .class_ 11), (0, u sN5), (0, .class_ 13), (0, u sN12), (3, u "Z"), (0, .class_ 19), (0, u sN13), (0, .interfaceMethodref 21 22), (0, .class_ 23), (0, .nameAndType 24 25), (0, u t19), (0, u t54), (0, u "()Z"), (0, .interfaceMethodref 18 27), (0, .nameAndType 28 29), (0, u "of"), (0, u t27), (0, .interfaceMethodref 21 31), (0, .nameAndType 32 33), (0, u "toArray"), (0, u sN19), (0, .interfaceMethodref 18 35), (0, .nameAndType 28 36), (0, u t17), (0, .methodref 38 39), (0, .class_ 40), (0, .nameAndType 41 42), (0, u t52), (0, u t63), (0, u t16), (0, .methodref 12 44), (0, .nameAndType 5 45), (0, u t53), (1, .class_ 49), (1, u t6), (0, u t8), (5, u sN8), (5, u "EMPTY_LIST"), (0, u t51), (8, u "EMPTY_LIST_NULLS"), (22, u "SALT32L"), (0, u "J"), (2, u "REVERSE"), (6, u "archivedObjects"), (2, u "EMPTY"), (0, u sN15), (0, .class_ 112), (0, u t33), (5, u "EMPTY_SET"), (0, u "Ljava/util/ImmutableCollections$SetN;"), (0, .class_ 121), (0, u t34), (3, u "EMPTY_MAP"), (0, u "Ljava/util/ImmutableCollections$MapN;"), (4, u "EXPAND_FACTOR"), (0, u "I"), (9, u "listCopy"), (0, u t9), (7, u "listFromArray"), (17, .class_ 170), (0, u "java/util/ImmutableCollections$MapN$MapNIterator"), (0, .class_ 172), (0, u "java/util/ImmutableCollections$MapN$1"), (0, .class_ 174), (0, u "java/util/ImmutableCollections$Map1"), (0, .class_ 176), (0, u "java/util/ImmutableCollections$AbstractImmutableMap"), (0, .class_ 178), (0, u "java/util/ImmutableCollections$SetN$SetNIterator"), (0, .class_ 180), (0, u "java/util/ImmutableCollections$Set12"), (0, .class_ 182), (0, u "java/util/ImmutableCollections$Set12$1"), (0, .class_ 184), (0, u "java/util/ImmutableCollections$AbstractImmutableSet"), (0, .class_ 186), (0, u "java/util/ImmutableCollections$SubList"), (0, .class_ 188), (0, u "java/util/ImmutableCollections$ListItr"), (0, .class_ 190), (0, u t3), (0, .class_ 192), (0, u t4), (0, .class_ 194), (0, u "java/util/ImmutableCollections$Access"), (0, .class_ 196), (0, u "java/util/ImmutableCollections$Access$1")] 16
def k23m0 : Method := ⟨t1, t5, ⟨[], none⟩, 2, none⟩
def k23c1 : Code := ⟨1, 2, jdk_56_method_3_code, #[], #[]⟩
def k23m1 : Method := ⟨"listCopy", t9, ⟨[(.object t19)], some (.object sN13)⟩, 8, some k23c1⟩
def k23c2 : Code := ⟨4, 3, jdk_56_method_4_code, #[], #[]⟩
def k23m2 : Method := ⟨"listFromArray", t17, ⟨[(.array (.object sN6))], some (.object sN13)⟩, 136, some k23c2⟩
def k23 : Class := { plain t6 (some 0) with
  accessFlags := 32
  cf := some (fileOf pool23 47 #[.nestMembers #[120, 169, 171, 173, 175, 111, 177, 179, 181, 183, 12, 10, 185, 187, 189, 191, 193, 195]] #[⟨2, 5, 6, #[]⟩, ⟨8, 142, 143, #[]⟩, ⟨136, 151, 36, #[]⟩] 32 2 #[] #[⟨26, 95, 96, #[]⟩, ⟨26, 99, 17, #[]⟩, ⟨10, 106, 56, #[]⟩, ⟨26, 109, 110, #[]⟩, ⟨24, 62, 63, #[]⟩, ⟨24, 72, 63, #[]⟩, ⟨24, 118, 119, #[]⟩, ⟨24, 125, 126, #[]⟩, ⟨24, 131, 132, #[]⟩, ⟨4120, 50, 17, #[]⟩])
  fields := #[⟨"SALT32L", .long, 26, 0, 0⟩, ⟨"REVERSE", .boolean, 26, 1, 0⟩, ⟨"archivedObjects", (.array (.object sN6)), 10, 2, 0⟩, ⟨"EMPTY", (.object sN6), 26, 3, 0⟩, ⟨"EMPTY_LIST", (.object sN12), 24, 4, 0⟩, ⟨"EMPTY_LIST_NULLS", (.object sN12), 24, 5, 0⟩, ⟨"EMPTY_SET", (.object t33), 24, 6, 0⟩, ⟨"EMPTY_MAP", (.object t34), 24, 7, 0⟩, ⟨"EXPAND_FACTOR", .int, 24, 8, 0⟩, ⟨t8, .boolean, 4120, 9, 0⟩]
  methods := #[k23m0, k23m1, k23m2]
  staticTypes := #[.long, .boolean, (.array (.object sN6)), (.object sN6), (.object sN12), (.object sN12), (.object t33), (.object t34), .int, .boolean]
  resolved := Array.replicate 213 none
  statics := some 4 }
def pool24 : Array CpInfo := pool [(1, .methodref 2 3), (0, .class_ 4), (0, .nameAndType 5 6), (0, u t29), (0, u t1), (0, u t5), (1, .class_ 10), (1, u t6), (2, .class_ 14), (0, u t4)] 41
def k24c0 : Code := ⟨1, 1, jdk_47_method_1_code, #[], #[]⟩
def k24m0 : Method := ⟨t1, t5, ⟨[], none⟩, 0, some k24c0⟩
def k24 : Class := { plain t4 (some 14) with
  accessFlags := 1056
  cf := some (fileOf pool24 13 #[.nestHost 8] #[⟨0, 5, 6, #[]⟩] 1056 2 #[] #[])
  methods := #[k24m0]
  resolved := Array.replicate 56 none }
def pool25 : Array CpInfo := pool [(1, .methodref 2 3), (0, .class_ 4), (0, .nameAndType 5 6), (0, u t4), (0, u t1), (0, u t5), (1, .class_ 10), (1, u t6), (3, .class_ 16), (1, u t3), (60, .class_ 78), (0, u sN13), (45, .class_ 125), (0, u t39)] 70
def k25c0 : Code := ⟨1, 1, jdk_46_method_1_code, #[], #[]⟩
def k25m0 : Method := ⟨t1, t5, ⟨[], none⟩, 0, some k25c0⟩
def k25 : Class := { plain t3 (some 24) with
  accessFlags := 1056
  interfaces := #[16, 18]
  cf := some (fileOf pool25 14 #[.nestHost 8] #[⟨0, 5, 6, #[]⟩] 1056 2 #[77, 124] #[])
  methods := #[k25m0]
  resolved := Array.replicate 196 none }
def pool26 : Array CpInfo := pool [(1, .methodref 2 3), (0, .class_ 4), (0, .nameAndType 5 6), (0, u t3), (0, u t1), (0, u t5), (0, .methodref 8 9), (0, .class_ 10), (0, .nameAndType 11 12), (0, u t52), (0, u t63), (0, u t16), (0, .fieldref 14 15), (0, .class_ 16), (0, .nameAndType 17 18), (0, u sN5), (0, u "e0"), (0, u sN15), (0, .fieldref 20 21), (0, .class_ 22), (0, .nameAndType 23 18), (0, u t6), (0, u "EMPTY"), (0, .fieldref 14 25), (0, .nameAndType 26 18), (0, u "e1"), (24, u "size"), (0, u "()I"), (17, .class_ 71), (0, u t18), (4, u t59), (8, u t26), (4, u "get"), (0, u t15)] 33
def k26c0 : Code := ⟨2, 2, jdk_44_method_1_code, #[], #[]⟩
def k26m0 : Method := ⟨t1, t59, ⟨[(.object sN6)], none⟩, 0, some k26c0⟩
def k26c1 : Code := ⟨2, 3, jdk_44_method_2_code, #[], #[]⟩
def k26m1 : Method := ⟨t1, t26, ⟨[(.object sN6), (.object sN6)], none⟩, 0, some k26c1⟩
def k26c2 : Code := ⟨2, 1, jdk_44_method_3_code, #[], #[]⟩
def k26m2 : Method := ⟨"size", "()I", ⟨[], some .int⟩, 1, some k26c2⟩
def k26c3 : Code := ⟨2, 2, jdk_44_method_5_code, #[], #[]⟩
def k26m3 : Method := ⟨"get", t15, ⟨[.int], some (.object sN6)⟩, 1, some k26c3⟩
def k26 : Class := { plain sN5 (some 25) with
  accessFlags := 48
  interfaces := #[3]
  cf := some (fileOf pool26 14 #[.nestHost 20] #[⟨0, 5, 76, #[]⟩, ⟨0, 5, 85, #[]⟩, ⟨1, 51, 52, #[]⟩, ⟨1, 90, 91, #[]⟩] 48 2 #[70] #[⟨18, 17, 18, #[]⟩, ⟨18, 26, 18, #[]⟩])
  fields := #[⟨"e0", (.object sN6), 18, 0, 0⟩, ⟨"e1", (.object sN6), 18, 1, 0⟩]
  methods := #[k26m0, k26m1, k26m2, k26m3]
  instanceTypes := #[(.object sN6), (.object sN6)]
  resolved := Array.replicate 125 none }
def pool27 : Array CpInfo := pool [(1, .methodref 2 3), (0, .class_ 4), (0, .nameAndType 5 6), (0, u t3), (0, u t1), (0, u t5), (0, .fieldref 8 9), (0, .class_ 10), (0, .nameAndType 11 12), (0, u sN12), (0, u "elements"), (0, u sN8), (0, .fieldref 8 14), (0, .nameAndType 15 16), (0, u "allowNulls"), (0, u "Z"), (42, .class_ 60), (0, u t18), (4, u t53), (11, u "size"), (0, u "()I"), (0, u "get"), (0, u t15), (33, .class_ 115), (0, u t6)] 3
def k27c0 : Code := ⟨2, 3, jdk_45_method_1_code, #[], #[]⟩
def k27m0 : Method := ⟨t1, t53, ⟨[(.array (.object sN6)), .boolean], none⟩, 2, some k27c0⟩
def k27c1 : Code := ⟨1, 1, jdk_45_method_3_code, #[], #[]⟩
def k27m1 : Method := ⟨"size", "()I", ⟨[], some .int⟩, 1, some k27c1⟩
def k27c2 : Code := ⟨2, 2, jdk_45_method_4_code, #[], #[]⟩
def k27m2 : Method := ⟨"get", t15, ⟨[.int], some (.object sN6)⟩, 1, some k27c2⟩
def k27 : Class := { plain sN12 (some 25) with
  accessFlags := 48
  interfaces := #[3]
  cf := some (fileOf pool27 8 #[.nestHost 114] #[⟨2, 5, 65, #[]⟩, ⟨1, 77, 78, #[]⟩, ⟨1, 79, 80, #[]⟩] 48 2 #[59] #[⟨18, 11, 12, #[]⟩, ⟨18, 15, 16, #[]⟩])
  fields := #[⟨"elements", (.array (.object sN6)), 18, 0, 0⟩, ⟨"allowNulls", .boolean, 18, 1, 0⟩]
  methods := #[k27m0, k27m1, k27m2]
  instanceTypes := #[(.array (.object sN6)), .boolean]
  resolved := Array.replicate 119 none }
def pool28 : Array CpInfo := pool [(1, .class_ 2), (0, u t46), (0, .class_ 4), (0, u sN6)] 9
def k28 : Class := { plain t46 (some 0) with
  accessFlags := 1537
  cf := some (fileOf pool28 1 #[] #[] 1537 3 #[] #[])
  resolved := Array.replicate 14 none }
def pool29 : Array CpInfo := pool [(1, .class_ 2), (0, u sN2), (0, .methodref 4 5), (0, .class_ 6), (0, .nameAndType 7 8), (0, u sN6), (0, u t1), (0, u t5), (1, .class_ 12), (1, u sN4), (0, u "EMPTYVALUE"), (0, u "[B"), (0, .fieldref 10 16), (0, .nameAndType 17 14), (0, u "value"), (0, .fieldref 1 19), (0, .nameAndType 20 21), (0, u "COMPACT_STRINGS"), (0, u "Z"), (0, .fieldref 10 23), (0, .nameAndType 24 25), (0, u "coder"), (0, u "B"), (0, .methodref 27 28), (0, .class_ 29), (0, .nameAndType 30 31), (0, u sN11), (0, u "newBytesFor"), (0, u "(I)[B"), (1, .nameAndType 34 35), (0, u t44), (0, u "()I"), (9, u "append"), (1, .interfaceMethodref 48 33), (0, .class_ 49), (0, u t13), (25, u "maybeLatin1"), (3, .fieldref 10 80), (0, .nameAndType 81 82), (0, u "count"), (0, u "I"), (0, .methodref 10 84), (0, .nameAndType 85 86), (0, u "isLatin1"), (0, u "()Z"), (1, .class_ 90), (1, u sN18), (9, .methodref 10 101), (0, .nameAndType 102 103), (0, u "ensureCapacityInternal"), (0, u "(I)V"), (21, .methodref 88 126), (0, .nameAndType 127 128), (0, u "inflate"), (0, u t67), (7, u "([BII)V"), (24, .methodref 162 163), (0, .class_ 164), (0, .nameAndType 165 166), (0, u sN17), (0, u "checkFromToIndex"), (0, u t10), (15, u t38), (0, .fieldref 162 184), (0, .nameAndType 185 182), (0, u "IOOBE_FORMATTER"), (5, .methodref 88 192), (0, .nameAndType 193 194), (0, u "canEncode"), (0, u "(C)Z"), (0, .methodref 10 196), (0, .nameAndType 127 8), (0, .methodref 27 198), (0, .nameAndType 199 136), (0, u "putCharSB"), (25, u t11), (6, .methodref 10 233), (0, .nameAndType 234 235), (0, u "appendChars"), (0, u "(Ljava/lang/String;II)V"), (56, u t32), (16, .methodref 310 311), (0, .class_ 312), (0, .nameAndType 313 314), (0, u t55), (0, u "arraycopy"), (0, u t12), (76, .nameAndType 392 393), (0, u "charAt"), (0, u "(I)C"), (6, .methodref 1 84), (0, .methodref 1 402), (0, .nameAndType 17 403), (0, u "()[B"), (0, .methodref 1 391), (39, .class_ 445), (0, u t46), (106, u "getValue")] 56
def k29m0 : Method := ⟨t1, t5, ⟨[], none⟩, 0, none⟩
def k29c1 : Code := ⟨2, 2, jdk_68_method_2_code, #[], #[]⟩
def k29m1 : Method := ⟨t1, "(I)V", ⟨[.int], none⟩, 0, some k29c1⟩
def k29c2 : Code := ⟨1, 1, jdk_68_method_6_code, #[], #[]⟩
def k29m2 : Method := ⟨t44, "()I", ⟨[], some .int⟩, 1, some k29c2⟩
def k29c3 : Code := ⟨4, 3, jdk_68_method_9_code, #[], #[]⟩
def k29m3 : Method := ⟨"ensureCapacityInternal", "(I)V", ⟨[.int], none⟩, 2, some k29c3⟩
def k29c4 : Code := ⟨5, 2, jdk_68_method_11_code, #[], #[]⟩
def k29m4 : Method := ⟨"inflate", t5, ⟨[], none⟩, 2, some k29c4⟩
def k29c5 : Code := ⟨4, 5, jdk_68_method_27_code, #[], #[]⟩
def k29m5 : Method := ⟨"append", t11, ⟨[(.object t13), .int, .int], some (.object sN4)⟩, 1, some k29c5⟩
def k29c6 : Code := ⟨5, 2, jdk_68_method_31_code, #[], #[]⟩
def k29m6 : Method := ⟨"append", t32, ⟨[.char], some (.object sN4)⟩, 1, some k29c6⟩
def k29c7 : Code := ⟨1, 1, jdk_68_method_64_code, #[], #[]⟩
def k29m7 : Method := ⟨"getValue", "()[B", ⟨[], some (.array .byte)⟩, 16, some k29c7⟩
def k29c8 : Code := ⟨1, 1, jdk_68_method_68_code, #[], #[]⟩
def k29m8 : Method := ⟨"isLatin1", "()Z", ⟨[], some .boolean⟩, 16, some k29c8⟩
def k29c9 : Code := ⟨6, 8, jdk_68_method_75_code, #[], #[]⟩
def k29m9 : Method := ⟨"appendChars", "(Ljava/lang/String;II)V", ⟨[(.object sN2), .int, .int], none⟩, 18, some k29c9⟩
def k29 : Class := { plain sN4 (some 0) with
  accessFlags := 1056
  interfaces := #[28, 5]
  cf := some (fileOf pool29 10 #[] #[⟨0, 7, 8, #[]⟩, ⟨0, 7, 103, #[]⟩, ⟨1, 34, 35, #[]⟩, ⟨2, 102, 103, #[]⟩, ⟨2, 127, 8, #[]⟩, ⟨1, 45, 225, #[]⟩, ⟨1, 45, 292, #[]⟩, ⟨16, 552, 403, #[]⟩, ⟨16, 85, 86, #[]⟩, ⟨18, 234, 235, #[]⟩] 1056 4 #[444, 48] #[⟨0, 17, 14, #[]⟩, ⟨0, 24, 25, #[]⟩, ⟨0, 75, 21, #[]⟩, ⟨0, 81, 82, #[]⟩, ⟨26, 13, 14, #[]⟩])
  fields := #[⟨"value", (.array .byte), 0, 0, 0⟩, ⟨"coder", .byte, 0, 1, 0⟩, ⟨"maybeLatin1", .boolean, 0, 2, 0⟩, ⟨"count", .int, 0, 3, 0⟩, ⟨"EMPTYVALUE", (.array .byte), 26, 0, 0⟩]
  methods := #[k29m0, k29m1, k29m2, k29m3, k29m4, k29m5, k29m6, k29m7, k29m8, k29m9]
  instanceTypes := #[(.array .byte), .byte, .boolean, .int]
  staticTypes := #[(.array .byte)]
  resolved := Array.replicate 609 none }
def pool30 : Array CpInfo := pool [(1, .methodref 2 3), (0, .class_ 4), (0, .nameAndType 5 6), (0, u sN4), (0, u t1), (0, u "(I)V"), (11, .class_ 20), (1, u sN2), (3, .class_ 26), (1, u sN14), (0, u "append"), (10, .methodref 2 39), (0, .nameAndType 27 40), (0, u t11), (9, .methodref 2 51), (0, .nameAndType 27 52), (0, u t32), (84, .methodref 18 138), (0, .nameAndType 5 139), (0, u t21), (5, u t5), (10, u "()I"), (129, u t42), (11, u t14), (44, .methodref 2 344), (0, .nameAndType 345 156), (0, u t44), (3, .class_ 350), (0, u t46), (0, .class_ 352), (0, u t18), (0, .class_ 354), (0, u t45), (0, .class_ 356), (0, u t13), (0, u t36), (0, u "J"), (40, u "toString"), (0, u t23)] 21
def k30c0 : Code := ⟨2, 1, jdk_67_method_1_code, #[], #[]⟩
def k30m0 : Method := ⟨t1, t5, ⟨[], none⟩, 1, some k30c0⟩
def k30c1 : Code := ⟨4, 4, jdk_67_method_10_code, #[], #[]⟩
def k30m1 : Method := ⟨"append", t14, ⟨[(.object t13), .int, .int], some (.object sN14)⟩, 1, some k30c1⟩
def k30c2 : Code := ⟨2, 2, jdk_67_method_14_code, #[], #[]⟩
def k30m2 : Method := ⟨"append", t42, ⟨[.char], some (.object sN14)⟩, 1, some k30c2⟩
def k30c3 : Code := ⟨3, 1, jdk_67_method_42_code, #[], #[]⟩
def k30m3 : Method := ⟨"toString", t23, ⟨[], some (.object sN2)⟩, 1, some k30c3⟩
def k30c4 : Code := ⟨1, 1, jdk_67_method_93_code, #[], #[]⟩
def k30m4 : Method := ⟨t44, "()I", ⟨[], some .int⟩, 4161, some k30c4⟩
def k30 : Class := { plain sN14 (some 29) with
  accessFlags := 49
  interfaces := #[28, 3, 4, 5]
  cf := some (fileOf pool30 24 #[] #[⟨1, 5, 145, #[]⟩, ⟨1, 27, 298, #[]⟩, ⟨1, 27, 286, #[]⟩, ⟨1, 399, 400, #[]⟩, ⟨4161, 345, 156, #[]⟩] 49 2 #[349, 351, 353, 355] #[⟨24, 357, 358, #[]⟩])
  fields := #[⟨t36, .long, 24, 0, 0⟩]
  methods := #[k30m0, k30m1, k30m2, k30m3, k30m4]
  instanceTypes := #[(.array .byte), .byte, .boolean, .int]
  staticTypes := #[.long]
  resolved := Array.replicate 422 none }
def pool31 : Array CpInfo := pool [(2, .class_ 4), (1, u sN6), (0, u t1), (0, u t5), (1, .class_ 10), (1, u t55), (0, u "allowSecurityManager"), (0, u "I"), (16, u "cons"), (0, u "Ljava/io/Console;"), (77, .class_ 110), (1, u "java/lang/System$CallersHolder"), (43, u "initialErrStream"), (0, u "Ljava/io/PrintStream;"), (19, u "security"), (0, u "Ljava/lang/SecurityManager;"), (31, .class_ 209), (0, u "java/lang/System$1"), (7, u "props"), (0, u "Ljava/util/Properties;"), (2, u "lineSeparator"), (0, u sN9), (96, .class_ 321), (1, u "java/lang/System$LoggerFinder"), (5, .class_ 328), (0, u "java/lang/System$Logger"), (67, u "err"), (2, u "out"), (91, u "notSupportedJnuEncoding"), (15, u "in"), (17, u "initialIn"), (0, u "Ljava/io/InputStream;"), (35, u "bootLayer"), (0, u "Ljava/lang/ModuleLayer;"), (99, .class_ 664), (0, u "java/lang/System$2"), (9, u "NEVER"), (2, u "MAYBE"), (49, u "arraycopy"), (0, u t12), (72, .class_ 802), (0, u "java/lang/System$Logger$Level")] 31
def k31m0 : Method := ⟨t1, t5, ⟨[], none⟩, 2, none⟩
def k31m1 : Method := ⟨"arraycopy", t12, ⟨[(.object sN6), .int, (.object sN6), .int, .int], none⟩, 265, none⟩
def k31 : Class := { plain t55 (some 0) with
  accessFlags := 49
  cf := some (fileOf pool31 8 #[.nestMembers #[319, 327, 801, 108, 663, 208]] #[⟨2, 5, 6, #[]⟩, ⟨265, 727, 728, #[]⟩] 49 2 #[] #[⟨25, 507, 526, #[]⟩, ⟨25, 399, 155, #[]⟩, ⟨25, 396, 155, #[]⟩, ⟨10, 525, 526, #[]⟩, ⟨26, 674, 12, #[]⟩, ⟨26, 677, 12, #[]⟩, ⟨10, 11, 12, #[]⟩, ⟨74, 175, 176, #[]⟩, ⟨10, 491, 222, #[]⟩, ⟨74, 29, 30, #[]⟩, ⟨74, 154, 155, #[]⟩, ⟨10, 217, 218, #[]⟩, ⟨10, 221, 222, #[]⟩, ⟨8, 562, 563, #[]⟩])
  fields := #[⟨"in", (.object t50), 25, 0, 0⟩, ⟨"out", (.object t25), 25, 1, 0⟩, ⟨"err", (.object t25), 25, 2, 0⟩, ⟨"initialIn", (.object t50), 10, 3, 0⟩, ⟨"NEVER", .int, 26, 4, 0⟩, ⟨"MAYBE", .int, 26, 5, 0⟩, ⟨"allowSecurityManager", .int, 10, 6, 0⟩, ⟨"security", (.object "java/lang/SecurityManager"), 74, 7, 0⟩, ⟨"notSupportedJnuEncoding", (.object sN2), 10, 8, 0⟩, ⟨"cons", (.object "java/io/Console"), 74, 9, 0⟩, ⟨"initialErrStream", (.object t25), 74, 10, 0⟩, ⟨"props", (.object "java/util/Properties"), 10, 11, 0⟩, ⟨"lineSeparator", (.object sN2), 10, 12, 0⟩, ⟨"bootLayer", (.object "java/lang/ModuleLayer"), 8, 13, 0⟩]
  methods := #[k31m0, k31m1]
  staticTypes := #[(.object t50), (.object t25), (.object t25), (.object t50), .int, .int, .int, (.object "java/lang/SecurityManager"), (.object sN2), (.object "java/io/Console"), (.object t25), (.object "java/util/Properties"), (.object sN2), (.object "java/lang/ModuleLayer")]
  resolved := Array.replicate 834 none }
def pool32 : Array CpInfo := pool [(2, .class_ 4), (1, u sN6), (0, u t1), (0, u t5), (7, .class_ 16), (1, u sN21), (57, .class_ 76), (1, u "java/util/Arrays$NaturalOrder"), (9, .methodref 2 87), (0, .nameAndType 88 89), (0, u "getClass"), (0, u t64), (20, .class_ 111), (0, u sN8), (1, .class_ 115), (1, u "java/util/Arrays$LegacyMergeSort"), (1, u "Z"), (21, u "copyOfRange"), (10, .methodref 151 152), (0, .class_ 153), (0, .nameAndType 154 155), (0, u t55), (0, u "arraycopy"), (0, u t12), (144, .methodref 14 301), (0, .nameAndType 302 303), (0, u "copyOf"), (0, u t30), (0, .methodref 305 306), (0, .class_ 307), (0, .nameAndType 308 309), (0, u t62), (0, u "min"), (0, u "(II)I"), (29, .methodref 14 340), (0, .nameAndType 341 342), (0, u "copyOfRangeByte"), (0, u "([BII)[B"), (0, .methodref 14 344), (0, .nameAndType 345 346), (0, u "checkLength"), (0, u "(II)V"), (28, .class_ 376), (0, u "java/util/Arrays$ArrayList"), (68, u t8), (269, u "MIN_ARRAY_SORT_GRAN"), (0, u "I"), (2, u "INSERTIONSORT_THRESHOLD"), (140, u t24), (114, .class_ 976), (0, u "java/util/Arrays$ArrayItr")] 52
def k32m0 : Method := ⟨t1, t5, ⟨[], none⟩, 2, none⟩
def k32c1 : Code := ⟨3, 2, jdk_65_method_119_code, #[], #[]⟩
def k32m1 : Method := ⟨"copyOf", t24, ⟨[(.array (.object sN6)), .int], some (.array (.object sN6))⟩, 9, some k32c1⟩
def k32c2 : Code := ⟨6, 4, jdk_65_method_120_code, #[], #[]⟩
def k32m2 : Method := ⟨"copyOf", t30, ⟨[(.array (.object sN6)), .int, (.object t60)], some (.array (.object sN6))⟩, 9, some k32c2⟩
def k32c3 : Code := ⟨4, 2, jdk_65_method_131_code, #[], #[]⟩
def k32m3 : Method := ⟨"checkLength", "(II)V", ⟨[.int, .int], none⟩, 10, some k32c3⟩
def k32c4 : Code := ⟨3, 3, jdk_65_method_132_code, #[], #[]⟩
def k32m4 : Method := ⟨"copyOfRange", "([BII)[B", ⟨[(.array .byte), .int, .int], some (.array .byte)⟩, 9, some k32c4⟩
def k32c5 : Code := ⟨6, 5, jdk_65_method_133_code, #[], #[]⟩
def k32m5 : Method := ⟨"copyOfRangeByte", "([BII)[B", ⟨[(.array .byte), .int, .int], some (.array .byte)⟩, 10, some k32c5⟩
def k32 : Class := { plain sN21 (some 0) with
  accessFlags := 49
  cf := some (fileOf pool32 14 #[.nestMembers #[975, 375, 113, 74]] #[⟨2, 5, 6, #[]⟩, ⟨9, 302, 860, #[]⟩, ⟨9, 302, 303, #[]⟩, ⟨10, 345, 346, #[]⟩, ⟨9, 139, 342, #[]⟩, ⟨10, 341, 342, #[]⟩] 49 2 #[] #[⟨26, 715, 716, #[]⟩, ⟨26, 719, 716, #[]⟩, ⟨4120, 445, 117, #[]⟩])
  fields := #[⟨"MIN_ARRAY_SORT_GRAN", .int, 26, 0, 0⟩, ⟨"INSERTIONSORT_THRESHOLD", .int, 26, 1, 0⟩, ⟨t8, .boolean, 4120, 2, 0⟩]
  methods := #[k32m0, k32m1, k32m2, k32m3, k32m4, k32m5]
  staticTypes := #[.int, .int, .boolean]
  resolved := Array.replicate 1029 none }
def pool33 : Array CpInfo := pool [(1, .class_ 2), (0, u t62), (1, .class_ 6), (1, u sN6), (0, u t1), (0, u t5), (89, .class_ 100), (1, u "java/lang/Math$RandomNumberGeneratorHolder"), (71, u "negativeZeroFloatBits"), (0, u "J"), (2, u "negativeZeroDoubleBits"), (21, u "max"), (2, u "min"), (43, u t8), (0, u "Z"), (88, u "(II)I"), (2, u "twoToTheDoubleScaleDown"), (0, u "D"), (4, u "twoToTheDoubleScaleUp"), (9, u "E"), (3, u "PI"), (2, u "TAU"), (2, u "DEGREES_TO_RADIANS"), (0, u "RADIANS_TO_DEGREES")] 94
def k33m0 : Method := ⟨t1, t5, ⟨[], none⟩, 2, none⟩
def k33c1 : Code := ⟨2, 2, jdk_29_method_65_code, #[], #[]⟩
def k33m1 : Method := ⟨"max", "(II)I", ⟨[.int, .int], some .int⟩, 9, some k33c1⟩
def k33c2 : Code := ⟨2, 2, jdk_29_method_69_code, #[], #[]⟩
def k33m2 : Method := ⟨"min", "(II)I", ⟨[.int, .int], some .int⟩, 9, some k33c2⟩
def k33 : Class := { plain t62 (some 0) with
  accessFlags := 49
  cf := some (fileOf pool33 1 #[.nestMembers #[98]] #[⟨2, 7, 8, #[]⟩, ⟨9, 198, 335, #[]⟩, ⟨9, 201, 335, #[]⟩] 49 4 #[] #[⟨25, 354, 339, #[]⟩, ⟨25, 358, 339, #[]⟩, ⟨25, 361, 339, #[]⟩, ⟨26, 364, 339, #[]⟩, ⟨26, 365, 339, #[]⟩, ⟨26, 172, 173, #[]⟩, ⟨26, 176, 173, #[]⟩, ⟨8, 344, 339, #[]⟩, ⟨8, 338, 339, #[]⟩, ⟨4120, 245, 246, #[]⟩])
  fields := #[⟨"E", .double, 25, 0, 0⟩, ⟨"PI", .double, 25, 1, 0⟩, ⟨"TAU", .double, 25, 2, 0⟩, ⟨"DEGREES_TO_RADIANS", .double, 26, 3, 0⟩, ⟨"RADIANS_TO_DEGREES", .double, 26, 4, 0⟩, ⟨"negativeZeroFloatBits", .long, 26, 5, 0⟩, ⟨"negativeZeroDoubleBits", .long, 26, 6, 0⟩, ⟨"twoToTheDoubleScaleUp", .double, 8, 7, 0⟩, ⟨"twoToTheDoubleScaleDown", .double, 8, 8, 0⟩, ⟨t8, .boolean, 4120, 9, 0⟩]
  methods := #[k33m0, k33m1, k33m2]
  staticTypes := #[.double, .double, .double, .double, .double, .long, .long, .double, .double, .boolean]
  resolved := Array.replicate 460 none }
def pool34 : Array CpInfo := pool [(2, .class_ 4), (1, u sN6), (0, u t1), (0, u t5), (35, .class_ 44), (1, u t52), (0, u t63), (0, u t16)] 137
def k34m0 : Method := ⟨t1, t5, ⟨[], none⟩, 2, none⟩
def k34c1 : Code := ⟨2, 1, jdk_31_method_10_code, #[], #[]⟩
def k34m1 : Method := ⟨t63, t16, ⟨[(.object sN6)], some (.object sN6)⟩, 9, some k34c1⟩
def k34 : Class := { plain t52 (some 0) with
  accessFlags := 49
  cf := some (fileOf pool34 42 #[] #[⟨2, 5, 6, #[]⟩, ⟨9, 45, 46, #[]⟩] 49 2 #[] #[])
  methods := #[k34m0, k34m1]
  resolved := Array.replicate 184 none }
def pool35 : Array CpInfo := pool [(9, u t1), (6, .class_ 18), (1, u sN6), (0, u t5), (1, .class_ 23), (1, u t61), (0, u "LOG2_ARRAY_LONG_INDEX_SCALE"), (0, u "I"), (2, u "U"), (0, u "Ljdk/internal/misc/Unsafe;"), (8, u "BIG_ENDIAN"), (0, u "Z"), (8, u "LOG2_BYTE_BIT_SIZE"), (4, u "LOG2_ARRAY_INT_INDEX_SCALE"), (54, u "JLA"), (0, u "Ljdk/internal/access/JavaLangAccess;"), (11, u "LOG2_ARRAY_BOOLEAN_INDEX_SCALE"), (9, u "LOG2_ARRAY_BYTE_INDEX_SCALE"), (5, u "LOG2_ARRAY_CHAR_INDEX_SCALE"), (5, u "LOG2_ARRAY_SHORT_INDEX_SCALE"), (18, u "LOG2_ARRAY_FLOAT_INDEX_SCALE"), (24, u "LOG2_ARRAY_DOUBLE_INDEX_SCALE"), (89, u "T_BOOLEAN"), (2, u "T_CHAR"), (1, u "T_FLOAT"), (1, u "T_DOUBLE"), (1, u "T_BYTE"), (1, u "T_SHORT"), (1, u "T_INT"), (1, u "T_LONG"), (1, u "SOFT_MAX_ARRAY_LENGTH")] 83
def k35m0 : Method := ⟨t1, t5, ⟨[], none⟩, 2, none⟩
def k35 : Class := { plain t61 (some 0) with
  accessFlags := 33
  cf := some (fileOf pool35 21 #[] #[⟨2, 9, 19, #[]⟩] 33 16 #[] #[⟨24, 28, 29, #[]⟩, ⟨26, 38, 39, #[]⟩, ⟨25, 121, 25, #[]⟩, ⟨25, 131, 25, #[]⟩, ⟨25, 137, 25, #[]⟩, ⟨25, 143, 25, #[]⟩, ⟨25, 53, 25, #[]⟩, ⟨25, 24, 25, #[]⟩, ⟨25, 162, 25, #[]⟩, ⟨25, 187, 25, #[]⟩, ⟨26, 48, 25, #[]⟩, ⟨25, 277, 25, #[]⟩, ⟨25, 280, 25, #[]⟩, ⟨25, 282, 25, #[]⟩, ⟨25, 284, 25, #[]⟩, ⟨25, 286, 25, #[]⟩, ⟨25, 288, 25, #[]⟩, ⟨25, 290, 25, #[]⟩, ⟨25, 292, 25, #[]⟩, ⟨26, 108, 109, #[]⟩, ⟨25, 294, 25, #[]⟩])
  fields := #[⟨"U", (.object "jdk/internal/misc/Unsafe"), 24, 0, 0⟩, ⟨"BIG_ENDIAN", .boolean, 26, 1, 0⟩, ⟨"LOG2_ARRAY_BOOLEAN_INDEX_SCALE", .int, 25, 2, 0⟩, ⟨"LOG2_ARRAY_BYTE_INDEX_SCALE", .int, 25, 3, 0⟩, ⟨"LOG2_ARRAY_CHAR_INDEX_SCALE", .int, 25, 4, 0⟩, ⟨"LOG2_ARRAY_SHORT_INDEX_SCALE", .int, 25, 5, 0⟩, ⟨"LOG2_ARRAY_INT_INDEX_SCALE", .int, 25, 6, 0⟩, ⟨"LOG2_ARRAY_LONG_INDEX_SCALE", .int, 25, 7, 0⟩, ⟨"LOG2_ARRAY_FLOAT_INDEX_SCALE", .int, 25, 8, 0⟩, ⟨"LOG2_ARRAY_DOUBLE_INDEX_SCALE", .int, 25, 9, 0⟩, ⟨"LOG2_BYTE_BIT_SIZE", .int, 26, 10, 0⟩, ⟨"T_BOOLEAN", .int, 25, 11, 0⟩, ⟨"T_CHAR", .int, 25, 12, 0⟩, ⟨"T_FLOAT", .int, 25, 13, 0⟩, ⟨"T_DOUBLE", .int, 25, 14, 0⟩, ⟨"T_BYTE", .int, 25, 15, 0⟩, ⟨"T_SHORT", .int, 25, 16, 0⟩, ⟨"T_INT", .int, 25, 17, 0⟩, ⟨"T_LONG", .int, 25, 18, 0⟩, ⟨"JLA", (.object t56), 26, 19, 0⟩, ⟨"SOFT_MAX_ARRAY_LENGTH", .int, 25, 20, 0⟩]
  methods := #[k35m0]
  staticTypes := #[(.object "jdk/internal/misc/Unsafe"), .boolean, .int, .int, .int, .int, .int, .int, .int, .int, .int, .int, .int, .int, .int, .int, .int, .int, .int, (.object t56), .int]
  resolved := Array.replicate 378 none }
def pool36 : Array CpInfo := pool [(1, u t60), (0, .class_ 1), (0, u sN6), (0, .class_ 3)] 0
def k36 : Class := { plain t60 (some 0) with
  accessFlags := 49
  cf := some (fileOf pool36 2 #[] #[] 49 4 #[] #[])
  resolved := Array.replicate 5 none }
def k37 : Class := { plain "byte" none with kind := .primitive 'B', accessFlags := 0x411 }
def k38 : Class := { plain "[B" (some 0) with kind := .array 37 .byte, interfaces := #[19, 3], accessFlags := 1041 }
def k39 : Class := { plain "char" none with kind := .primitive 'C', accessFlags := 0x411 }
def k40 : Class := { plain "[C" (some 0) with kind := .array 39 .char, interfaces := #[19, 3], accessFlags := 1041 }
def k41 : Class := { plain "int" none with kind := .primitive 'I', accessFlags := 0x411 }
def k42 : Class := { plain "[I" (some 0) with kind := .array 41 .int, interfaces := #[19, 3], accessFlags := 1041 }
def k43 : Class := { plain sN8 (some 0) with kind := .array 0 (.object sN6), interfaces := #[19, 3], accessFlags := 1041, mirror := some 5 }
def heap : Heap := #[{ cls := 8, slots := #[.long 0, .int 1, .null, .int 0, .null, .int 0, .int 0], vm := .statics 8 },
  { cls := 9, slots := #[.int 0, .int 8, .int 0, .int 1], vm := .statics 9 },
  { cls := 11, slots := #[.null, .null, .null], vm := .statics 11 },
  { cls := 20, slots := #[.long 0, .int 0, .ref 6, .ref 6], vm := .statics 20 },
  { cls := 23, slots := #[.long 0, .int 0, .null, .ref 8, .ref 7, .null, .null, .null, .int 0, .int 1], vm := .statics 23 },
  { cls := 36, slots := #[], vm := .mirror 43 },
  { cls := 43, slots := #[], vm := .none },
  { cls := 27, slots := #[.ref 6, .int 0], vm := .none },
  { cls := 0, slots := #[], vm := .none },
  { cls := 35, slots := #[], vm := .none }]
def classes : Array Class := #[k0, k1, k2, k3, k4, k5, k6, k7, k8, k9, k10, k11, k12, k13, k14, k15, k16, k17, k18, k19, k20, k21, k22, k23, k24, k25, k26, k27, k28, k29, k30, k31, k32, k33, k34, k35, k36, k37, k38, k39, k40, k41, k42, k43]
def interned : List (Array UInt16 × Addr) := []
def slotsUsed : Nat := 30
def theMethod : MethodId := ⟨1, 1⟩
def args0 : Array Value := #[.int 5, .int 97, .int 98, .int 99]
def aboutOver (below : List Frame) : State where
  vm := { classes := classes, interned := interned.toArray }
  heap := heap
  slotsUsed := slotsUsed
  threads := #[{ frames := .invoking theMethod args0 :: below }]
def below0 : List Frame := [.native { method := ⟨0, 0⟩, args := #[] }]
def about1 : State := aboutOver below0
def p0 : Program := .bare "" "" ""
def e0 : Env := launch0.env 0 0 0
theorem w_frames : about1.frames = Frame.invoking theMethod args0 :: below0 := rfl
theorem w_args : argsFit about1.vm theMethod args0 = true := by decide +kernel
theorem w_heap : heapFits about1 = true := by decide +kernel
theorem w_runnable : about1.curStatus? = some .runnable := by decide +kernel
theorem w_alone : about1.alone = true := by decide +kernel
theorem w_named : about1.methodNamed? x = some theMethod := by decide +kernel
theorem w_hears : about1.hears theMethod below0 = true := by decide +kernel
theorem w_ripe : about1.ripe theMethod args0 below0 = true := by decide +kernel
theorem w_running : about1.status = .running := rfl
theorem w_room : about1.hasRoom e0.platform room_1 = true :=
  launch0.hasRoom_least _ room_1 (by decide +kernel) (by decide +kernel) (by decide +kernel) (by decide +kernel) (by decide +kernel) (by decide +kernel)
theorem allAtoms_all (ts : List Jvm.Cond) (a : Array Jvm.Value) (st : Jvm.State) : (allAtoms ts).before a st = ts.all (fun c => c.before a st) := by
  induction ts with
  | nil => rfl
  | cons c t ih =>
    show (Jvm.Cond.and c (allAtoms t)).before a st = _
    rw [Jvm.Cond.before_and, ih, List.all_cons]
def words1 : List Jvm.Cond := Jvm.Cond.code x code maxLocals ret :: tables_1
theorem code_word {y : MethodName} {bytes : ByteArray} {mx : Nat} {rt : Option FieldType} {a : Array Value} {s : State} {m : MethodId} {meth : Method} {c : Code} (h1 : s.methodNamed? y = some m) (h2 : s.vm.method? m = some meth) (h3 : meth.code = some c) (h4 : c.code = bytes)
    (h5 : (c.maxLocals == mx && c.exceptionTable.isEmpty && decide (c.maxStack ≤ mostOperands) && decide (meth.sig.returnType = rt) && !meth.locks && decide (parseMethodDescriptor y.desc = some meth.sig)) = true) : (Jvm.Cond.code y bytes mx rt).before a s = true := by
  simp only [Bool.and_eq_true, beq_iff_eq, Bool.not_eq_true', decide_eq_true_eq] at h5
  obtain ⟨⟨⟨⟨⟨g1, g2⟩, g3⟩, g4⟩, g5⟩, g6⟩ := h5
  simp [Cond.before, Cond.holds, Cond.value, h1, h2, h3, h4, g1, g2, g3, g4, g5, g6]
def isCode : Jvm.Cond → Bool
  | .code _ _ _ _ => true
  | _ => false
theorem all_split {L : List Jvm.Cond} {P : Jvm.Cond → Bool} (h1 : L.all (fun c => isCode c || P c) = true) (h2 : ∀ c ∈ L.filter isCode, P c = true) : L.all P = true := by
  refine List.all_eq_true.mpr fun c hc => ?_
  have h := List.all_eq_true.mp h1 c hc
  rcases Bool.eq_false_or_eq_true (isCode c) with hi | hi
  · exact h2 c (List.mem_filter.mpr ⟨hc, hi⟩)
  · simpa [hi] using h
abbrev cP (c : Jvm.Cond) : Prop := c.before args0 about1 = true
abbrev wo (i : Nat) : Jvm.Cond := words1.getD i .tt
theorem cC {a : Jvm.Cond} {L : List Jvm.Cond} (h : cP a) (r : ∀ c ∈ L, cP c) : ∀ c ∈ a :: L, cP c := fun c q => (List.mem_cons.mp q).elim (fun e => e ▸ h) (r c)
theorem cw {y : MethodName} {bytes : ByteArray} {mx : Nat} {rt : Option FieldType} {a : Array Value} {s : State} (m : MethodId) (meth : Method) (c : Code) (h1 : s.methodNamed? y = some m) (h2 : s.vm.method? m = some meth) (h3 : meth.code = some c) (h4 : c.code = bytes) (h5 : (c.maxLocals == mx && c.exceptionTable.isEmpty && decide (c.maxStack ≤ mostOperands) && decide (meth.sig.returnType = rt) && !meth.locks && decide (parseMethodDescriptor y.desc = some meth.sig)) = true) : (Jvm.Cond.code y bytes mx rt).before a s = true := code_word h1 h2 h3 h4 h5
theorem w_c0 : cP (wo 0) := cw ⟨1, 1⟩ k1m1 k1c1 (by decide +kernel) rfl rfl rfl (by decide +kernel)
theorem w_c1 : cP (wo 4) := cw ⟨1, 2⟩ k1m2 k1c2 (by decide +kernel) rfl rfl rfl (by decide +kernel)
theorem w_c2 : cP (wo 14) := cw ⟨8, 1⟩ k8m1 k8c1 (by decide +kernel) rfl rfl rfl (by decide +kernel)
theorem w_c3 : cP (wo 18) := cw ⟨8, 8⟩ k8m8 k8c8 (by decide +kernel) rfl rfl rfl (by decide +kernel)
theorem w_c4 : cP (wo 21) := cw ⟨0, 0⟩ k0m0 k0c0 (by decide +kernel) rfl rfl rfl (by decide +kernel)
theorem w_c5 : cP (wo 26) := cw ⟨9, 8⟩ k9m8 k9c8 (by decide +kernel) rfl rfl rfl (by decide +kernel)
theorem w_c6 : cP (wo 30) := cw ⟨9, 9⟩ k9m9 k9c9 (by decide +kernel) rfl rfl rfl (by decide +kernel)
theorem w_c7 : cP (wo 33) := cw ⟨9, 7⟩ k9m7 k9c7 (by decide +kernel) rfl rfl rfl (by decide +kernel)
theorem w_c8 : cP (wo 40) := cw ⟨2, 0⟩ k2m0 k2c0 (by decide +kernel) rfl rfl rfl (by decide +kernel)
theorem w_c9 : cP (wo 50) := cw ⟨8, 4⟩ k8m4 k8c4 (by decide +kernel) rfl rfl rfl (by decide +kernel)
theorem w_c10 : cP (wo 56) := cw ⟨8, 5⟩ k8m5 k8c5 (by decide +kernel) rfl rfl rfl (by decide +kernel)
theorem w_c11 : cP (wo 61) := cw ⟨8, 13⟩ k8m13 k8c13 (by decide +kernel) rfl rfl rfl (by decide +kernel)
theorem w_c12 : cP (wo 65) := cw ⟨10, 1⟩ k10m1 k10c1 (by decide +kernel) rfl rfl rfl (by decide +kernel)
theorem w_c13 : cP (wo 68) := cw ⟨8, 14⟩ k8m14 k8c14 (by decide +kernel) rfl rfl rfl (by decide +kernel)
theorem w_c14 : cP (wo 73) := cw ⟨11, 1⟩ k11m1 k11c1 (by decide +kernel) rfl rfl rfl (by decide +kernel)
theorem w_c15 : cP (wo 80) := cw ⟨2, 1⟩ k2m1 k2c1 (by decide +kernel) rfl rfl rfl (by decide +kernel)
theorem w_c16 : cP (wo 85) := cw ⟨8, 3⟩ k8m3 k8c3 (by decide +kernel) rfl rfl rfl (by decide +kernel)
theorem w_c17 : cP (wo 90) := cw ⟨8, 11⟩ k8m11 k8c11 (by decide +kernel) rfl rfl rfl (by decide +kernel)
theorem w_c18 : cP (wo 96) := cw ⟨20, 0⟩ k20m0 k20c0 (by decide +kernel) rfl rfl rfl (by decide +kernel)
theorem w_c19 : cP (wo 102) := cw ⟨17, 0⟩ k17m0 k17c0 (by decide +kernel) rfl rfl rfl (by decide +kernel)
theorem w_c20 : cP (wo 108) := cw ⟨14, 0⟩ k14m0 k14c0 (by decide +kernel) rfl rfl rfl (by decide +kernel)
theorem w_c21 : cP (wo 118) := cw ⟨2, 4⟩ k2m4 k2c4 (by decide +kernel) rfl rfl rfl (by decide +kernel)
theorem w_c22 : cP (wo 122) := cw ⟨2, 5⟩ k2m5 k2c5 (by decide +kernel) rfl rfl rfl (by decide +kernel)
theorem w_c23 : cP (wo 126) := cw ⟨2, 6⟩ k2m6 k2c6 (by decide +kernel) rfl rfl rfl (by decide +kernel)
theorem w_c24 : cP (wo 132) := cw ⟨22, 0⟩ k22m0 k22c0 (by decide +kernel) rfl rfl rfl (by decide +kernel)
theorem w_c25 : cP (wo 137) := cw ⟨21, 0⟩ k21m0 k21c0 (by decide +kernel) rfl rfl rfl (by decide +kernel)
theorem w_c26 : cP (wo 142) := cw ⟨16, 4⟩ k16m4 k16c4 (by decide +kernel) rfl rfl rfl (by decide +kernel)
theorem w_c27 : cP (wo 146) := cw ⟨23, 1⟩ k23m1 k23c1 (by decide +kernel) rfl rfl rfl (by decide +kernel)
theorem w_c28 : cP (wo 161) := cw ⟨20, 3⟩ k20m3 k20c3 (by decide +kernel) rfl rfl rfl (by decide +kernel)
theorem w_c29 : cP (wo 166) := cw ⟨16, 2⟩ k16m2 k16c2 (by decide +kernel) rfl rfl rfl (by decide +kernel)
theorem w_c30 : cP (wo 176) := cw ⟨1, 7⟩ k1m7 k1c7 (by decide +kernel) rfl rfl rfl (by decide +kernel)
theorem w_c31 : cP (wo 181) := cw ⟨22, 1⟩ k22m1 k22c1 (by decide +kernel) rfl rfl rfl (by decide +kernel)
theorem w_c32 : cP (wo 186) := cw ⟨22, 2⟩ k22m2 k22c2 (by decide +kernel) rfl rfl rfl (by decide +kernel)
theorem w_c33 : cP (wo 196) := cw ⟨27, 1⟩ k27m1 k27c1 (by decide +kernel) rfl rfl rfl (by decide +kernel)
theorem w_c34 : cP (wo 203) := cw ⟨22, 3⟩ k22m3 k22c3 (by decide +kernel) rfl rfl rfl (by decide +kernel)
theorem w_c35 : cP (wo 209) := cw ⟨30, 0⟩ k30m0 k30c0 (by decide +kernel) rfl rfl rfl (by decide +kernel)
theorem w_c36 : cP (wo 215) := cw ⟨29, 1⟩ k29m1 k29c1 (by decide +kernel) rfl rfl rfl (by decide +kernel)
theorem w_c37 : cP (wo 225) := cw ⟨2, 3⟩ k2m3 k2c3 (by decide +kernel) rfl rfl rfl (by decide +kernel)
theorem w_c38 : cP (wo 230) := cw ⟨30, 1⟩ k30m1 k30c1 (by decide +kernel) rfl rfl rfl (by decide +kernel)
theorem w_c39 : cP (wo 235) := cw ⟨29, 5⟩ k29m5 k29c5 (by decide +kernel) rfl rfl rfl (by decide +kernel)
theorem w_c40 : cP (wo 247) := cw ⟨11, 2⟩ k11m2 k11c2 (by decide +kernel) rfl rfl rfl (by decide +kernel)
theorem w_c41 : cP (wo 254) := cw ⟨29, 3⟩ k29m3 k29c3 (by decide +kernel) rfl rfl rfl (by decide +kernel)
theorem w_c42 : cP (wo 260) := cw ⟨29, 9⟩ k29m9 k29c9 (by decide +kernel) rfl rfl rfl (by decide +kernel)
theorem w_c43 : cP (wo 265) := cw ⟨29, 8⟩ k29m8 k29c8 (by decide +kernel) rfl rfl rfl (by decide +kernel)
theorem w_c44 : cP (wo 271) := cw ⟨8, 12⟩ k8m12 k8c12 (by decide +kernel) rfl rfl rfl (by decide +kernel)
theorem w_c45 : cP (wo 280) := cw ⟨30, 3⟩ k30m3 k30c3 (by decide +kernel) rfl rfl rfl (by decide +kernel)
theorem w_c46 : cP (wo 284) := cw ⟨8, 2⟩ k8m2 k8c2 (by decide +kernel) rfl rfl rfl (by decide +kernel)
theorem w_c47 : cP (wo 287) := cw ⟨8, 9⟩ k8m9 k8c9 (by decide +kernel) rfl rfl rfl (by decide +kernel)
theorem w_c48 : cP (wo 292) := cw ⟨29, 7⟩ k29m7 k29c7 (by decide +kernel) rfl rfl rfl (by decide +kernel)
theorem w_c49 : cP (wo 298) := cw ⟨30, 4⟩ k30m4 k30c4 (by decide +kernel) rfl rfl rfl (by decide +kernel)
theorem w_c50 : cP (wo 300) := cw ⟨29, 2⟩ k29m2 k29c2 (by decide +kernel) rfl rfl rfl (by decide +kernel)
theorem w_c51 : cP (wo 305) := cw ⟨32, 4⟩ k32m4 k32c4 (by decide +kernel) rfl rfl rfl (by decide +kernel)
theorem w_c52 : cP (wo 308) := cw ⟨32, 5⟩ k32m5 k32c5 (by decide +kernel) rfl rfl rfl (by decide +kernel)
theorem w_c53 : cP (wo 311) := cw ⟨32, 3⟩ k32m3 k32c3 (by decide +kernel) rfl rfl rfl (by decide +kernel)
theorem w_c54 : cP (wo 315) := cw ⟨33, 2⟩ k33m2 k33c2 (by decide +kernel) rfl rfl rfl (by decide +kernel)
theorem w_c55 : cP (wo 321) := cw ⟨20, 6⟩ k20m6 k20c6 (by decide +kernel) rfl rfl rfl (by decide +kernel)
theorem w_c56 : cP (wo 328) := cw ⟨20, 5⟩ k20m5 k20c5 (by decide +kernel) rfl rfl rfl (by decide +kernel)
theorem w_c57 : cP (wo 333) := cw ⟨20, 2⟩ k20m2 k20c2 (by decide +kernel) rfl rfl rfl (by decide +kernel)
theorem w_c58 : cP (wo 338) := cw ⟨20, 1⟩ k20m1 k20c1 (by decide +kernel) rfl rfl rfl (by decide +kernel)
theorem w_c59 : cP (wo 341) := cw ⟨33, 1⟩ k33m1 k33c1 (by decide +kernel) rfl rfl rfl (by decide +kernel)
theorem w_c60 : cP (wo 352) := cw ⟨20, 4⟩ k20m4 k20c4 (by decide +kernel) rfl rfl rfl (by decide +kernel)
theorem w_c61 : cP (wo 355) := cw ⟨32, 1⟩ k32m1 k32c1 (by decide +kernel) rfl rfl rfl (by decide +kernel)
theorem w_c62 : cP (wo 364) := cw ⟨32, 2⟩ k32m2 k32c2 (by decide +kernel) rfl rfl rfl (by decide +kernel)
theorem w_c63 : cP (wo 369) := cw ⟨16, 3⟩ k16m3 k16c3 (by decide +kernel) rfl rfl rfl (by decide +kernel)
theorem w_c64 : cP (wo 376) := cw ⟨26, 0⟩ k26m0 k26c0 (by decide +kernel) rfl rfl rfl (by decide +kernel)
theorem w_c65 : cP (wo 382) := cw ⟨25, 0⟩ k25m0 k25c0 (by decide +kernel) rfl rfl rfl (by decide +kernel)
theorem w_c66 : cP (wo 388) := cw ⟨24, 0⟩ k24m0 k24c0 (by decide +kernel) rfl rfl rfl (by decide +kernel)
theorem w_c67 : cP (wo 394) := cw ⟨34, 1⟩ k34m1 k34c1 (by decide +kernel) rfl rfl rfl (by decide +kernel)
theorem w_c68 : cP (wo 402) := cw ⟨1, 5⟩ k1m5 k1c5 (by decide +kernel) rfl rfl rfl (by decide +kernel)
theorem w_c69 : cP (wo 408) := cw ⟨26, 2⟩ k26m2 k26c2 (by decide +kernel) rfl rfl rfl (by decide +kernel)
theorem w_c70 : cP (wo 416) := cw ⟨26, 3⟩ k26m3 k26c3 (by decide +kernel) rfl rfl rfl (by decide +kernel)
theorem w_c71 : cP (wo 421) := cw ⟨8, 6⟩ k8m6 k8c6 (by decide +kernel) rfl rfl rfl (by decide +kernel)
theorem w_c72 : cP (wo 425) := cw ⟨10, 3⟩ k10m3 k10c3 (by decide +kernel) rfl rfl rfl (by decide +kernel)
theorem w_c73 : cP (wo 428) := cw ⟨1, 6⟩ k1m6 k1c6 (by decide +kernel) rfl rfl rfl (by decide +kernel)
theorem w_c74 : cP (wo 432) := cw ⟨2, 2⟩ k2m2 k2c2 (by decide +kernel) rfl rfl rfl (by decide +kernel)
theorem w_c75 : cP (wo 437) := cw ⟨30, 2⟩ k30m2 k30c2 (by decide +kernel) rfl rfl rfl (by decide +kernel)
theorem w_c76 : cP (wo 441) := cw ⟨29, 6⟩ k29m6 k29c6 (by decide +kernel) rfl rfl rfl (by decide +kernel)
theorem w_c77 : cP (wo 444) := cw ⟨10, 2⟩ k10m2 k10c2 (by decide +kernel) rfl rfl rfl (by decide +kernel)
theorem w_c78 : cP (wo 451) := cw ⟨1, 4⟩ k1m4 k1c4 (by decide +kernel) rfl rfl rfl (by decide +kernel)
theorem w_c79 : cP (wo 454) := cw ⟨26, 1⟩ k26m1 k26c1 (by decide +kernel) rfl rfl rfl (by decide +kernel)
theorem w_c80 : cP (wo 457) := cw ⟨1, 3⟩ k1m3 k1c3 (by decide +kernel) rfl rfl rfl (by decide +kernel)
theorem w_c81 : cP (wo 460) := cw ⟨8, 7⟩ k8m7 k8c7 (by decide +kernel) rfl rfl rfl (by decide +kernel)
theorem w_c82 : cP (wo 464) := cw ⟨10, 4⟩ k10m4 k10c4 (by decide +kernel) rfl rfl rfl (by decide +kernel)
theorem w_c83 : cP (wo 467) := cw ⟨8, 10⟩ k8m10 k8c10 (by decide +kernel) rfl rfl rfl (by decide +kernel)
theorem w_c84 : cP (wo 470) := cw ⟨9, 6⟩ k9m6 k9c6 (by decide +kernel) rfl rfl rfl (by decide +kernel)
theorem w_c85 : cP (wo 473) := cw ⟨9, 1⟩ k9m1 k9c1 (by decide +kernel) rfl rfl rfl (by decide +kernel)
theorem w_c86 : cP (wo 476) := cw ⟨9, 2⟩ k9m2 k9c2 (by decide +kernel) rfl rfl rfl (by decide +kernel)
theorem w_c87 : cP (wo 480) := cw ⟨9, 3⟩ k9m3 k9c3 (by decide +kernel) rfl rfl rfl (by decide +kernel)
theorem w_c88 : cP (wo 486) := cw ⟨9, 4⟩ k9m4 k9c4 (by decide +kernel) rfl rfl rfl (by decide +kernel)
theorem w_c89 : cP (wo 489) := cw ⟨9, 12⟩ k9m12 k9c12 (by decide +kernel) rfl rfl rfl (by decide +kernel)
theorem w_c90 : cP (wo 492) := cw ⟨9, 14⟩ k9m14 k9c14 (by decide +kernel) rfl rfl rfl (by decide +kernel)
theorem w_c91 : cP (wo 495) := cw ⟨9, 5⟩ k9m5 k9c5 (by decide +kernel) rfl rfl rfl (by decide +kernel)
theorem w_c92 : cP (wo 503) := cw ⟨29, 4⟩ k29m4 k29c4 (by decide +kernel) rfl rfl rfl (by decide +kernel)
theorem w_c93 : cP (wo 507) := cw ⟨10, 5⟩ k10m5 k10c5 (by decide +kernel) rfl rfl rfl (by decide +kernel)
theorem w_c94 : cP (wo 510) := cw ⟨9, 13⟩ k9m13 k9c13 (by decide +kernel) rfl rfl rfl (by decide +kernel)
theorem w_c95 : cP (wo 513) := cw ⟨9, 15⟩ k9m15 k9c15 (by decide +kernel) rfl rfl rfl (by decide +kernel)
theorem w_c96 : cP (wo 516) := cw ⟨8, 15⟩ k8m15 k8c15 (by decide +kernel) rfl rfl rfl (by decide +kernel)
theorem w_c97 : cP (wo 519) := cw ⟨11, 3⟩ k11m3 k11c3 (by decide +kernel) rfl rfl rfl (by decide +kernel)
theorem w_c98 : cP (wo 522) := cw ⟨9, 11⟩ k9m11 k9c11 (by decide +kernel) rfl rfl rfl (by decide +kernel)
theorem w_c99 : cP (wo 528) := cw ⟨9, 10⟩ k9m10 k9c10 (by decide +kernel) rfl rfl rfl (by decide +kernel)
theorem w_c100 : cP (wo 531) := cw ⟨23, 2⟩ k23m2 k23c2 (by decide +kernel) rfl rfl rfl (by decide +kernel)
theorem w_c101 : cP (wo 538) := cw ⟨27, 0⟩ k27m0 k27c0 (by decide +kernel) rfl rfl rfl (by decide +kernel)
theorem w_c102 : cP (wo 549) := cw ⟨27, 2⟩ k27m2 k27c2 (by decide +kernel) rfl rfl rfl (by decide +kernel)
def codes1 : List Jvm.Cond := [0, 4, 14, 18, 21, 26, 30, 33, 40, 50, 56, 61, 65, 68, 73, 80, 85, 90, 96, 102, 108, 118, 122, 126, 132, 137, 142, 146, 161, 166, 176, 181, 186, 196, 203, 209, 215, 225, 230, 235, 247, 254, 260, 265, 271, 280, 284, 287, 292, 298, 300, 305, 308, 311, 315, 321, 328, 333, 338, 341, 352, 355, 364, 369, 376, 382, 388, 394, 402, 408, 416, 421, 425, 428, 432, 437, 441, 444, 451, 454, 457, 460, 464, 467, 470, 473, 476, 480, 486, 489, 492, 495, 503, 507, 510, 513, 516, 519, 522, 528, 531, 538, 549].map wo
theorem codes_eq : words1.filter isCode = codes1 := rfl
theorem w_codes : ∀ c ∈ words1.filter isCode, c.before args0 about1 = true := by
  rw [codes_eq]
  exact cC w_c0 (cC w_c1 (cC w_c2 (cC w_c3 (cC w_c4 (cC w_c5 (cC w_c6 (cC w_c7 (cC w_c8 (cC w_c9 (cC w_c10 (cC w_c11 (cC w_c12 (cC w_c13 (cC w_c14 (cC w_c15 (cC w_c16 (cC w_c17 (cC w_c18 (cC w_c19 (cC w_c20 (cC w_c21 (cC w_c22 (cC w_c23 (cC w_c24 (cC w_c25 (cC w_c26 (cC w_c27 (cC w_c28 (cC w_c29 (cC w_c30 (cC w_c31 (cC w_c32 (cC w_c33 (cC w_c34 (cC w_c35 (cC w_c36 (cC w_c37 (cC w_c38 (cC w_c39 (cC w_c40 (cC w_c41 (cC w_c42 (cC w_c43 (cC w_c44 (cC w_c45 (cC w_c46 (cC w_c47 (cC w_c48 (cC w_c49 (cC w_c50 (cC w_c51 (cC w_c52 (cC w_c53 (cC w_c54 (cC w_c55 (cC w_c56 (cC w_c57 (cC w_c58 (cC w_c59 (cC w_c60 (cC w_c61 (cC w_c62 (cC w_c63 (cC w_c64 (cC w_c65 (cC w_c66 (cC w_c67 (cC w_c68 (cC w_c69 (cC w_c70 (cC w_c71 (cC w_c72 (cC w_c73 (cC w_c74 (cC w_c75 (cC w_c76 (cC w_c77 (cC w_c78 (cC w_c79 (cC w_c80 (cC w_c81 (cC w_c82 (cC w_c83 (cC w_c84 (cC w_c85 (cC w_c86 (cC w_c87 (cC w_c88 (cC w_c89 (cC w_c90 (cC w_c91 (cC w_c92 (cC w_c93 (cC w_c94 (cC w_c95 (cC w_c96 (cC w_c97 (cC w_c98 (cC w_c99 (cC w_c100 (cC w_c101 (cC w_c102 (fun _ q => nomatch q)))))))))))))))))))))))))))))))))))))))))))))))))))))))))))))))))))))))))))))))))))))))))))))))))))))))
def dn : Nat → List Jvm.Cond
  | 0 => words1
  | n + 1 => (dn n).drop 24
def Pw (c : Jvm.Cond) : Bool := isCode c || c.before args0 about1
theorem sp {n : Nat} (h1 : ((dn n).take 24).all Pw = true) (h2 : (dn (n + 1)).all Pw = true) : (dn n).all Pw = true := by
  rw [← List.take_append_drop 24 (dn n), List.all_append, h1]
  exact h2
theorem w_t1 : ((dn 0).take 24).all Pw = true := by decide +kernel
theorem w_t2 : ((dn 1).take 24).all Pw = true := by decide +kernel
theorem w_t3 : ((dn 2).take 24).all Pw = true := by decide +kernel
theorem w_t4 : ((dn 3).take 24).all Pw = true := by decide +kernel
theorem w_t5 : ((dn 4).take 24).all Pw = true := by decide +kernel
theorem w_t6 : ((dn 5).take 24).all Pw = true := by decide +kernel
theorem w_t7 : ((dn 6).take 24).all Pw = true := by decide +kernel
theorem w_t8 : ((dn 7).take 24).all Pw = true := by decide +kernel
theorem w_t9 : ((dn 8).take 24).all Pw = true := by decide +kernel
theorem w_t10 : ((dn 9).take 24).all Pw = true := by decide +kernel
theorem w_t11 : ((dn 10).take 24).all Pw = true := by decide +kernel
theorem w_t12 : ((dn 11).take 24).all Pw = true := by decide +kernel
theorem w_t13 : ((dn 12).take 24).all Pw = true := by decide +kernel
theorem w_t14 : ((dn 13).take 24).all Pw = true := by decide +kernel
theorem w_t15 : ((dn 14).take 24).all Pw = true := by decide +kernel
theorem w_t16 : ((dn 15).take 24).all Pw = true := by decide +kernel
theorem w_t17 : ((dn 16).take 24).all Pw = true := by decide +kernel
theorem w_t18 : ((dn 17).take 24).all Pw = true := by decide +kernel
theorem w_t19 : ((dn 18).take 24).all Pw = true := by decide +kernel
theorem w_t20 : ((dn 19).take 24).all Pw = true := by decide +kernel
theorem w_t21 : ((dn 20).take 24).all Pw = true := by decide +kernel
theorem w_t22 : ((dn 21).take 24).all Pw = true := by decide +kernel
theorem w_t23 : (dn 22).all Pw = true := by decide +kernel
theorem w_tables : (allAtoms (Jvm.Cond.code x code maxLocals ret :: tables_1)).before args0 about1 = true := by
  rw [allAtoms_all]
  show words1.all (fun c => c.before args0 about1) = true
  refine all_split ?_ w_codes
  exact sp w_t1 (sp w_t2 (sp w_t3 (sp w_t4 (sp w_t5 (sp w_t6 (sp w_t7 (sp w_t8 (sp w_t9 (sp w_t10 (sp w_t11 (sp w_t12 (sp w_t13 (sp w_t14 (sp w_t15 (sp w_t16 (sp w_t17 (sp w_t18 (sp w_t19 (sp w_t20 (sp w_t21 (sp w_t22 w_t23)))))))))))))))))))))
theorem w_rest : rest_1_c.before args0 about1 = true := by decide +kernel
theorem w_case : (Jvm.Cond.and given_1 narrow_1).before args0 about1 = true := by decide +kernel
theorem w_consts : constsHeld consts_1 about1 := Jvm.Lit.constsHeldB_iff.mp (by decide +kernel)
theorem w_applies : (headSpec (Jvm.Cond.code x code maxLocals ret :: tables_1) room_1).applies x e0.platform about1 = true :=
  (Spec.applies_iff w_frames).mpr ⟨w_running, w_runnable, w_alone, w_named, w_hears, w_ripe, w_room, w_tables⟩
theorem atStart : AtStart classFile x code maxLocals ret World_1 tables_1 room_1 Calls_1 rest_1 Pre_1 launch0 p0 e0 about1 theMethod args0 below0 :=
  ⟨lists_1, trivial, launch0.admits_env _ _ _, launch0.least_env, fairChoices_fair.cas, fairChoices_fair.clock, w_frames, w_args, w_heap, w_applies, ⟨⟨43, k43, 5, by decide +kernel, rfl, rfl, _, rfl, rfl⟩, ⟨w_consts, trivial⟩⟩, w_rest, w_case⟩
end start1
theorem witness_1 : WitnessClaimed_1 := ⟨start1.p0, start1.e0, start1.about1, start1.theMethod, start1.args0, start1.below0, start1.atStart⟩
end Jvm.Pilot.@@N@@
