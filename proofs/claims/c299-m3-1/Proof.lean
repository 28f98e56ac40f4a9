import JvmDerived
import JvmDerived.Pilot.@@N@@Statement
import JvmDerived.Pilot.@@N@@Code
set_option linter.unusedVariables false
set_option linter.unusedSimpArgs false
/- laws to paste: Road.eqW (cut by pick.py; bodies as the Statement names them) -/
namespace Jvm.Pilot.@@N@@
namespace StrChars
open Jvm Sem ClassFile Op Lib Jvm.Stand Jvm.Free.XT Jvm.Free.ALB Jvm.Free.JM Jvm.Free
open Jvm.Lib.Cold (StaticIs)
/-- the byte that i2b leaves of a char -/
def lo8 (x : Int32) : Int32 := x.toInt8.toInt32
theorem fits_lo8 (y : Int32) : fits .byte (.int (lo8 y)) = true := by
  have h1 := y.toInt8.le_toInt
  have h2 := y.toInt8.toInt_lt
  simp only [lo8, fits, Bool.and_eq_true, decide_eq_true_eq, Int32.le_iff_toInt_le, Int8.toInt_toInt32, show (-128 : Int32).toInt = -128 from by decide, show (127 : Int32).toInt = 127 from by decide]
  omega
def U16 : String := "java/lang/StringUTF16"
namespace Cmp5
def yN : MethodName := ⟨"java/lang/StringUTF16", "compress", "([CI[BII)I"⟩
abbrev yB : ByteArray := jdk_52_method_21_code
end Cmp5
namespace Cmp3
def yN : MethodName := ⟨"java/lang/StringUTF16", "compress", "([CII)[B"⟩
abbrev yB : ByteArray := jdk_52_method_16_code
end Cmp3
namespace CodL
def yN : MethodName := ⟨"java/lang/StringUTF16", "coderFromArrayLen", "([BI)B"⟩
abbrev yB : ByteArray := jdk_52_method_15_code
end CodL
namespace New4
def yN : MethodName := ⟨"java/lang/String", "<init>", "([CIILjava/lang/Void;)V"⟩
abbrev yB : ByteArray := jdk_42_method_149_code
end New4
namespace New1
def yN : MethodName := ⟨"java/lang/String", "<init>", "([C)V"⟩
abbrev yB : ByteArray := jdk_42_method_3_code
end New1
/-- the byte, read back as charAt reads it, is the char -/
theorem lo8_mask {x : Int32} (h0 : ¬ x < 0) (h1 : ¬ 255 < x) : lo8 x &&& 255 = x := by
  have t : ∀ k : Fin 256, lo8 (Int32.ofNat k.val) &&& 255 = Int32.ofNat k.val := by decide +kernel
  rw [Int32.lt_iff_toInt_lt] at h0 h1
  have e0 : (0 : Int32).toInt = 0 := rfl
  have e1 : (255 : Int32).toInt = 255 := rfl
  obtain ⟨k, hk⟩ : ∃ k : Nat, x.toInt = k := ⟨x.toInt.toNat, by omega⟩
  have hx : x = Int32.ofNat k := Int32.toInt_inj.mp (by rw [hk, Int32.toInt_ofNat_small (by omega)])
  rw [hx]
  exact t ⟨k, by omega⟩
end StrChars
namespace StrChars.Road
open Jvm Sem ClassFile Op Lib Jvm.Stand Jvm.Free Jvm.Free.XT
open Jvm.Lib.Cold (StaticIs)
abbrev ST : String := "java/lang/String"
/-- every table word that New1's law asks, flat -/
abbrev words : List Jvm.Cond := [.code New1.yN New1.yB 2 none, .initialized ST, .methodLink ST 27 New4.yN, .instanceMethod New4.yN,
  .code New4.yN New4.yB 6 none, .fieldLink ST 38 ST "COMPACT_STRINGS" "Z", .laysFinal ST ST "value" "[B", .fieldLink ST 9 ST "value" "[B", .laysFinal ST ST "coder" "B", .fieldLink ST 15 ST "coder" "B",
  .methodLink ST 1 Lib.objectInit, .instanceMethod Lib.objectInit, .code Lib.objectInit ⟨#[0xb1]⟩ 1 none, .methodLink ST 177 Cmp3.yN, .static Cmp3.yN, .methodLink ST 47 CodL.yN, .static CodL.yN,
  .code Cmp3.yN Cmp3.yB 6 (some (.array .byte)), .initialized U16, .arrayClass .byte, .methodLink U16 115 Cmp5.yN, .static Cmp5.yN, .code Cmp5.yN Cmp5.yB 7 (some .int), .code CodL.yN CodL.yB 2 (some .byte)]
end StrChars.Road
namespace StrChars
open Jvm Sem ClassFile Op Lib Jvm.Stand Jvm.Free.XT Jvm.Free.ALB Jvm.Free.JM Jvm.Free
open Jvm.Lib.Cold (StaticIs)
def hi8 (x : Int32) : Int32 := lo8 (x >>> ((8 : Int32) &&& 31))
/-- what StringUTF16.getChar makes of two bytes -/
def pairCh (u v : Int32) : Int32 := (((u &&& 255) <<< ((0 : Int32) &&& 31)) ||| ((v &&& 255) <<< ((8 : Int32) &&& 31))).toUInt32.toUInt16.toUInt32.toInt32
theorem lo8_and (x : Int32) : (lo8 x &&& 255).toBitVec.toNat = x.toBitVec.toNat % 256 := by
  have h : (lo8 x).toBitVec = (x.toBitVec.signExtend 8).signExtend 32 := by rw [lo8, Int8.toBitVec_toInt32, Int32.toBitVec_toInt8]
  rw [Int32.toBitVec_and, BitVec.toNat_and, h]
  have e : ((x.toBitVec.signExtend 8).signExtend 32).toNat % 256 = x.toBitVec.toNat % 256 := by
    rw [BitVec.toNat_signExtend]
    have hlt := x.toBitVec.isLt
    simp only [BitVec.toNat_setWidth, BitVec.toNat_signExtend]
    split <;> split <;> omega
  rw [← e]
  exact Nat.and_two_pow_sub_one_eq_mod _ 8
theorem pair_says {c : Int32} (h0 : ¬ c < 0) (h1 : ¬ 65535 < c) : pairCh (lo8 c) (hi8 c) = c := by
  rw [Int32.lt_iff_toInt_lt] at h0 h1
  have e0 : (0 : Int32).toInt = 0 := rfl
  have e1 : (65535 : Int32).toInt = 65535 := rfl
  have hc : c.toInt = c.toBitVec.toNat := by
    have := c.toBitVec.isLt
    have e : c.toInt = c.toBitVec.toInt := rfl
    rw [e] at h0 h1
    rw [e]
    rw [BitVec.toInt_eq_toNat_cond] at h0 h1 ⊢
    split at h0 <;> split <;> omega
  have hn : c.toBitVec.toNat < 65536 := by omega
  have a1 := lo8_and c
  have a2 : (hi8 c &&& 255).toBitVec.toNat = c.toBitVec.toNat / 256 := by
    rw [hi8, lo8_and]
    have e : ((8 : Int32) &&& 31) = 8 := by decide
    rw [e, Int32.toBitVec_shiftRight]
    have e2 : ((8 : Int32).toBitVec.smod 32) = 8#32 := by decide
    rw [e2, BitVec.sshiftRight_eq', BitVec.toNat_sshiftRight_of_msb_false (by rw [BitVec.msb_eq_false_iff_two_mul_lt]; omega)]
    show c.toBitVec.toNat >>> 8 % 256 = _
    rw [Nat.shiftRight_eq_div_pow]
    omega
  unfold pairCh
  apply Int32.toBitVec_inj.mp
  apply BitVec.eq_of_toNat_eq
  have f0 : ((0 : Int32) &&& 31) = 0 := by decide
  have f8 : ((8 : Int32) &&& 31) = 8 := by decide
  rw [f0, f8]
  have g : (((lo8 c &&& 255) <<< (0 : Int32)) ||| ((hi8 c &&& 255) <<< (8 : Int32))).toBitVec.toNat = c.toBitVec.toNat := by
    rw [Int32.toBitVec_or, Int32.toBitVec_shiftLeft, Int32.toBitVec_shiftLeft]
    have s0 : ((0 : Int32).toBitVec.smod 32) = 0#32 := by decide
    have s8 : ((8 : Int32).toBitVec.smod 32) = 8#32 := by decide
    rw [s0, s8, BitVec.toNat_or]
    simp only [BitVec.shiftLeft_eq', BitVec.toNat_shiftLeft, a1, a2]
    show (c.toBitVec.toNat % 256) <<< 0 % 2 ^ 32 ||| (c.toBitVec.toNat / 256) <<< 8 % 2 ^ 32 = _
    rw [Nat.shiftLeft_zero, Nat.mod_eq_of_lt (show c.toBitVec.toNat % 256 < 2 ^ 32 by omega), Nat.mod_eq_of_lt (show (c.toBitVec.toNat / 256) <<< 8 < 2 ^ 32 by rw [Nat.shiftLeft_eq]; omega), Nat.or_comm, ← Nat.shiftLeft_add_eq_or_of_lt (by omega), Nat.shiftLeft_eq]
    omega
  show BitVec.toNat (((((lo8 c &&& 255) <<< (0 : Int32)) ||| ((hi8 c &&& 255) <<< (8 : Int32))).toBitVec.setWidth 16).setWidth 32) = _
  rw [BitVec.toNat_setWidth, BitVec.toNat_setWidth, g]
  omega
end StrChars
namespace StrChars
open Jvm Sem ClassFile Op Lib Jvm.Stand Jvm.Free.XT Jvm.Free.ALB Jvm.Free.JM Jvm.Free
open Jvm.Lib.Cold (StaticIs)
/-- the array's cell V codes the n chars f 0 .. f (n - 1) by the coder cd, as the JDK does: coder 1 just where some char is above 255 -/
def Cod (cd : Int32) (n : Nat) (f : Nat → Int32) (V : Cell) : Prop := (cd = 0 ∧ V.slots.size = n ∧ ∀ j, j < n → V.slots[j]? = some (.int (lo8 (f j))) ∧ ¬ 255 < f j) ∨ (cd = 1 ∧ V.slots.size = 2 * n ∧ (∀ j, j < n → V.slots[2 * j]? = some (.int (lo8 (f j))) ∧ V.slots[2 * j + 1]? = some (.int (hi8 (f j)))) ∧ ∃ j, j < n ∧ 255 < f j)
/-- **x is a String of the n chars f 0 .. f (n - 1)**, Latin-1 or UTF-16; its array at t has the cell V -/
def Txt (x t : Addr) (V : Cell) (cd : Int32) (n : Nat) (f : Nat → Int32) (U : State) : Prop := Exact "java/lang/String" x U ∧ Has x "java/lang/String" "value" "[B" (.ref t) U ∧ Has x "java/lang/String" "coder" "B" (.int cd) U ∧ XT.Arr .byte t V U ∧ Cod cd n f V ∧ ∀ j, j < n → ¬ f j < 0 ∧ ¬ 65535 < f j
theorem Txt.mv {x t : Addr} {V : Cell} {cd : Int32} {n : Nat} {f : Nat → Int32} {U U' : State} (h : Txt x t V cd n f U) (hal : U.vm.Alike U'.vm) (hh : U'.heap = U.heap) : Txt x t V cd n f U' := ⟨h.1.mv hal hh, h.2.1.mv hal hh, h.2.2.1.mv hal hh, h.2.2.2.1.mv hal hh, h.2.2.2.2⟩
end StrChars
namespace StrChars.Road
open Jvm Sem ClassFile Op Lib Jvm.Stand Jvm.Free Jvm.Free.XT
open Jvm.Lib.Cold (StaticIs)
theorem consq {a : Array Value} {s : State} {c : Jvm.Cond} {L : List Jvm.Cond} (h0 : c.before a s = true) (h : ∀ w ∈ L, w.before a s = true) : ∀ w ∈ c :: L, w.before a s = true := fun w hw => (List.mem_cons.mp hw).elim (fun e => e ▸ h0) (h w)
/-- the bytes of the chars cs, low before high -/
def wideBytes : List Int32 → List Value
  | [] => []
  | c :: cs => .int (lo8 c) :: .int (hi8 c) :: wideBytes cs
theorem wide_lo (d : Value) : ∀ (cs : List Int32) (j : Nat), j < cs.length → (wideBytes cs).getD (2 * j) d = .int (lo8 (cs.getD j 0))
  | [], j, h => absurd h (Nat.not_lt_zero j)
  | c :: cs, 0, _ => rfl
  | c :: cs, j + 1, h => by
    have q := wide_lo d cs j (by simpa using h)
    rw [show 2 * (j + 1) = 2 * j + 1 + 1 from by omega]
    simpa [wideBytes] using q
theorem wide_hi (d : Value) : ∀ (cs : List Int32) (j : Nat), j < cs.length → (wideBytes cs).getD (2 * j + 1) d = .int (hi8 (cs.getD j 0))
  | [], j, h => absurd h (Nat.not_lt_zero j)
  | c :: cs, 0, _ => rfl
  | c :: cs, j + 1, h => by
    have q := wide_hi d cs j (by simpa using h)
    rw [show 2 * (j + 1) + 1 = 2 * j + 1 + 1 + 1 from by omega]
    simpa [wideBytes] using q
theorem low_at (d : Value) (cs : List Int32) (j : Nat) (h : j < cs.length) : (cs.map fun c => Value.int (lo8 c)).getD j d = .int (lo8 (cs.getD j 0)) := by
  simp [List.getD_eq_getElem?_getD, h]
/-- an array of N2 bytes vs codes the chars cs by the coder cd -/
def CodA (cs : List Int32) (cd N2 : Int32) (vs : List Value) : Prop := (cd = 0 ∧ N2 = Int32.ofNat cs.length ∧ vs = (cs.map fun c => Value.int (lo8 c)) ∧ ∀ c ∈ cs, ¬ 255 < c) ∨ (cd = 1 ∧ N2 = Int32.ofNat (2 * cs.length) ∧ vs = wideBytes cs ∧ ∃ c ∈ cs, 255 < c)
theorem CodA.cod {cs : List Int32} {cd N2 : Int32} {vs : List Value} {V : Cell} (h : CodA cs cd N2 vs) (hn : 2 * cs.length < 2 ^ 31) (hs : V.slots.size = N2.toNatClampNeg) (hv : RoadKit.Has V vs (.int 0)) : Cod cd cs.length (fun j => cs.getD j 0) V := by
  rcases h with ⟨rfl, rfl, rfl, h⟩ | ⟨rfl, rfl, rfl, c, hc, hw⟩
  · rw [n32 (by omega)] at hs
    exact Or.inl ⟨rfl, hs, fun j hj => ⟨by rw [hv j (by omega), low_at _ _ _ hj], by
      have e : cs.getD j 0 = cs[j] := by simp [List.getD_eq_getElem?_getD, hj]
      show ¬ 255 < cs.getD j 0
      rw [e]; exact h _ (List.getElem_mem _)⟩⟩
  · rw [n32 (by omega)] at hs
    obtain ⟨j, hj, rfl⟩ := List.getElem_of_mem hc
    exact Or.inr ⟨rfl, hs, fun j hj => ⟨by rw [hv _ (by omega), wide_lo _ _ _ hj], by rw [hv _ (by omega), wide_hi _ _ _ hj]⟩, j, hj, by
      have e : cs.getD j 0 = cs[j] := by simp [List.getD_eq_getElem?_getD, hj]
      show 255 < cs.getD j 0
      rw [e]; exact hw⟩
/-- an object of exactly java/lang/String, its two fields found: as the laws ask it -/
theorem strObj {Z U : State} {a0 : Array Value} {kI : Nat} (wi : (Jvm.Cond.instantiable ST kI).before a0 Z = true) (al : Z.vm.Alike U.vm) {x : Addr} {v0 c0 : Value} (E : RoadKit.Exa Z U.heap x ST) (V : RoadKit.Fld Z U.heap x ST "value" "[B" v0) (C : RoadKit.Fld Z U.heap x ST "coder" "B" c0) :
    ∃ (D : Cell) (fV fC : Field), Blank ST x D U ∧ Found ST "value" "[B" fV U ∧ Found ST "coder" "B" fC U ∧ D.slots[fV.slot]? = some v0 ∧ D.slots[fC.slot]? = some c0 ∧ RoadKit.slotOf Z ST "value" "[B" = fV.slot ∧ RoadKit.slotOf Z ST "coder" "B" = fC.slot := by
  obtain ⟨D, cfV, kV, iV, fV, hD, gV, stV, knV, obV, asV, slV⟩ := V
  obtain ⟨D', cfC, kC, iC, fC, hD', gC, stC, -, -, asC, slC⟩ := C
  cases hD.symm.trans hD'
  obtain ⟨D2, kD, e1, e2, e3, e4, e5⟩ := E
  cases hD.symm.trans e1
  obtain ⟨c2, k2, i1, i2, i3, -⟩ := Cond.instantiable_spec wi
  cases e2.symm.trans i1
  cases e3.symm.trans i2
  obtain ⟨kU, u1, u2⟩ := al.2.2 _ _ e3
  exact ⟨D, fV, fC, ⟨hD, ⟨knV, fun q hq => by rw [hq] at obV; cases obV⟩, by rw [al.findClass]; exact e2, kU, u1, by rw [u2]; exact i3, by rw [u2]; exact e5 i3⟩, ⟨SBG.found_only al ⟨cfV, kV, iV, gV⟩, stV⟩, ⟨SBG.found_only al ⟨cfC, kC, iC, gC⟩, stC⟩, slV, slC, by simp [RoadKit.slotOf, gV], by simp [RoadKit.slotOf, gC]⟩
theorem sta_is {Z U : State} (al : Z.vm.Alike U.vm) {C n d : String} {v : Value} (S : RoadKit.Sta Z U.heap C n d v) : StaticIs U C n d v := by
  obtain ⟨cfS, iS, kS, fS, st, cS, t1, t2, t3, t4, t5, t6, t7⟩ := S
  exact StaticIs.there (s := { Z with heap := U.heap }) ⟨cfS, iS, kS, fS, st, cS, t1, t2, t3, t4, t5, (fun q => by rw [q] at t6; cases t6), t7⟩ al rfl
end StrChars.Road
namespace StrChars
open Jvm Sem ClassFile Op Lib Jvm.Stand Jvm.Free.XT Jvm.Free.ALB Jvm.Free.JM Jvm.Free
open Jvm.Lib.Cold (StaticIs)
/-- what place i of a byte[]'s cell holds -/
def yv (A : Cell) (i : Nat) : Int32 := match A.slots[i]? with | some (.int x) => x | _ => 0
theorem yv_get {a : Addr} {A : Cell} {U : State} (h : XT.Arr .byte a A U) (ht : Typed .byte A) {i : Nat} (hi : i < A.slots.size) : A.slots[i]? = some (.int (yv A i)) := by
  have e := Array.getElem?_eq_getElem hi
  have f := ht i _ e
  unfold yv; rw [e]
  generalize A.slots[i] = v at f
  cases v <;> simp [fits] at f ⊢
/-- the two arrays are equal, place for place -/
def EqC (A B : Cell) : Prop := A.slots.size = B.slots.size ∧ ∀ i, i < A.slots.size → yv A i = yv B i
/-- a boolean that says whether p -/
def Says01 (q : Prop) (r : Option Value) (s u : State) : Prop := ∃ v : Int32, r = some (.int v) ∧ u.heap = s.heap ∧ ((v = 1 ∧ q) ∨ (v = 0 ∧ ¬ q))
theorem Says01.mv {q : Prop} : ∀ r (U U' V V' : State), U'.heap = U.heap → V.vm.Alike V'.vm → V'.heap = V.heap → Says01 q r U V → Says01 q r U' V' :=
  fun r U U' V V' h1 _ h2 ⟨v, a, b, c⟩ => ⟨v, a, by rw [h1, h2]; exact b, c⟩
namespace LEq
def yN : MethodName := ⟨"java/lang/StringLatin1", "equals", "([B[B)Z"⟩
abbrev yB : ByteArray := jdk_43_method_13_code
theorem d0 : decode yB 0 = .ok (.aload_n 0, 1) := by decide +kernel
theorem d1 : decode yB 1 = .ok (.arraylength, 1) := by decide +kernel
theorem d2 : decode yB 2 = .ok (.aload_n 1, 1) := by decide +kernel
theorem d3 : decode yB 3 = .ok (.arraylength, 1) := by decide +kernel
theorem d4 : decode yB 4 = .ok (.if_icmp (.ne) 30, 3) := by decide +kernel
theorem d7 : decode yB 7 = .ok (.iconst 0, 1) := by decide +kernel
theorem d8 : decode yB 8 = .ok (.istore_n 2, 1) := by decide +kernel
theorem d9 : decode yB 9 = .ok (.iload_n 2, 1) := by decide +kernel
theorem d10 : decode yB 10 = .ok (.aload_n 0, 1) := by decide +kernel
theorem d11 : decode yB 11 = .ok (.arraylength, 1) := by decide +kernel
theorem d12 : decode yB 12 = .ok (.if_icmp (.ge) 20, 3) := by decide +kernel
theorem d15 : decode yB 15 = .ok (.aload_n 0, 1) := by decide +kernel
theorem d16 : decode yB 16 = .ok (.iload_n 2, 1) := by decide +kernel
theorem d17 : decode yB 17 = .ok (.baload, 1) := by decide +kernel
theorem d18 : decode yB 18 = .ok (.aload_n 1, 1) := by decide +kernel
theorem d19 : decode yB 19 = .ok (.iload_n 2, 1) := by decide +kernel
theorem d20 : decode yB 20 = .ok (.baload, 1) := by decide +kernel
theorem d21 : decode yB 21 = .ok (.if_icmp (.eq) 5, 3) := by decide +kernel
theorem d24 : decode yB 24 = .ok (.iconst 0, 1) := by decide +kernel
theorem d25 : decode yB 25 = .ok (.ireturn, 1) := by decide +kernel
theorem d26 : decode yB 26 = .ok (.iinc 2 1, 3) := by decide +kernel
theorem d29 : decode yB 29 = .ok (.goto (-20), 3) := by decide +kernel
theorem d32 : decode yB 32 = .ok (.iconst 1, 1) := by decide +kernel
theorem d33 : decode yB 33 = .ok (.ireturn, 1) := by decide +kernel
theorem d34 : decode yB 34 = .ok (.iconst 0, 1) := by decide +kernel
theorem d35 : decode yB 35 = .ok (.ireturn, 1) := by decide +kernel
def site : List Cond := []
def tab : Cond := tabOf yN yB 3 (some .boolean) site
def P (a : Addr) (A : Cell) (b : Addr) (B : Cell) (args : Array Value) (s : State) : Prop := args = #[.ref a, .ref b] ∧ XT.Arr .byte a A s ∧ Typed .byte A ∧ XT.Arr .byte b B s ∧ Typed .byte B
/-- whether two byte[] are equal, place for place -/
theorem law (l : Launch) (a : Addr) (A : Cell) (b : Addr) (B : Cell) : Law l yN 2 2 0 0 yB 3 (some .boolean) site (P a A b B) (Says01 (EqC A B)) [] 0 0 := by
  refine Law.of_walk (plainFor_of_name (by decide +kernel)) (by decide +kernel) (by decide +kernel) (by decide) (fun _ _ h => by rw [h.1]; rfl) (fun _ U U' hal hh h => ⟨h.1, h.2.1.mv hal hh, h.2.2.1, h.2.2.2.1.mv hal hh, h.2.2.2.2⟩) (fun r U U' V V' h1 hal h2 h => Says01.mv r U U' V V' h1 hal h2 h) ?_
  intro p e s m args below meth c s₁ X0 hexec hbytes hml hret hlk hnm hown hh0 W hP
  obtain ⟨rfl, hA, tA, hB, tB⟩ := hP
  have a31 := hA.2.2.2
  have b31 := hB.2.2.2
  have hA0 := hA.mv X0.warmed.alike hh0
  have hB0 := hB.mv X0.warmed.alike hh0
  have c1 : Steps p.tables e below (s₁.setTop (entryFrame m #[.ref a, .ref b] 3)) (s₁.setTop (mkF m 0 #[.val (.ref a), .val (.ref b), .unset] [])) := entry rfl
  have c2 : Steps p.tables e below (s₁.setTop (entryFrame m #[.ref a, .ref b] 3)) (s₁.setTop (mkF m 4 #[.val (.ref a), .val (.ref b), .unset] [.int (Int32.ofNat B.slots.size), .int (Int32.ofNat A.slots.size)])) := c1.trans (by
    refine XS.aloadN X0.here hexec rfl (hb hbytes d0) rfl rfl ?_
    refine X0.alen hexec hA0 rfl rfl (hb hbytes d1) ?_
    refine XS.aloadN X0.here hexec rfl (hb hbytes d2) rfl rfl ?_
    refine X0.alen hexec hB0 rfl rfl (hb hbytes d3) ?_
    exact Steps.refl _)
  by_cases hs : A.slots.size = B.slots.size
  · have c3 : Steps p.tables e below (s₁.setTop (entryFrame m #[.ref a, .ref b] 3)) (s₁.setTop (mkF m 9 #[.val (.ref a), .val (.ref b), .val (.int 0)] [])) := c2.trans (by
      refine XS.icmpNo X0.here hexec rfl (hb hbytes d4) rfl (ii_ne_f (by rw [hs])) ?_
      refine iconstV X0.here hexec rfl 0 (hb hbytes d7) (by decide) ?_
      refine XS.istoreN X0.here hexec rfl (hb hbytes d8) rfl rfl ?_
      exact Steps.refl _)
    have loop : ∀ (r i : Nat), i + r = A.slots.size → (∀ j, j < i → yv A j = yv B j) → Steps p.tables e below (s₁.setTop (entryFrame m #[.ref a, .ref b] 3)) (s₁.setTop (mkF m 9 #[.val (.ref a), .val (.ref b), .val (.int (Int32.ofNat i))] [])) → ∃ (pc : Nat) (Ls : Array Slot) (v : Int32), (pc = 25 ∨ pc = 33) ∧ ((v = 1 ∧ EqC A B) ∨ (v = 0 ∧ ¬ EqC A B)) ∧ Steps p.tables e below (s₁.setTop (entryFrame m #[.ref a, .ref b] 3)) (s₁.setTop (mkF m pc Ls [.int v])) := by
      intro r
      induction r with
      | zero =>
        intro i hi he cl
        exact ⟨33, _, 1, Or.inr rfl, Or.inl ⟨rfl, hs, fun j hj => he j (by omega)⟩, cl.trans (by
          refine XS.iloadN X0.here hexec rfl (hb hbytes d9) rfl ?_
          refine XS.aloadN X0.here hexec rfl (hb hbytes d10) rfl rfl ?_
          refine X0.alen hexec hA0 rfl rfl (hb hbytes d11) ?_
          refine XS.icmpYes X0.here hexec rfl (pc0 := 12) rfl (hb hbytes d12) rfl (ii_ge_t (nlt32 (by omega) (by omega))) (by decide) rfl ?_
          refine iconstV X0.here hexec rfl 1 (hb hbytes d32) (by decide) ?_
          exact Steps.refl _)⟩
      | succ r ih =>
        intro i hi he cl
        have c4 : Steps p.tables e below (s₁.setTop (entryFrame m #[.ref a, .ref b] 3)) (s₁.setTop (mkF m 21 #[.val (.ref a), .val (.ref b), .val (.int (Int32.ofNat i))] [.int (yv B i), .int (yv A i)])) := cl.trans (by
          refine XS.iloadN X0.here hexec rfl (hb hbytes d9) rfl ?_
          refine XS.aloadN X0.here hexec rfl (hb hbytes d10) rfl rfl ?_
          refine X0.alen hexec hA0 rfl rfl (hb hbytes d11) ?_
          refine XS.icmpNo X0.here hexec rfl (hb hbytes d12) rfl (ii_ge_f (lt32 (by omega) (by omega))) ?_
          refine XS.aloadN X0.here hexec rfl (hb hbytes d15) rfl rfl ?_
          refine XS.iloadN X0.here hexec rfl (hb hbytes d16) rfl ?_
          refine X0.aget hexec hA0 rfl (yv_get hA tA (i := i) (by omega)) rfl rfl (hb hbytes d17) ?_
          refine XS.aloadN X0.here hexec rfl (hb hbytes d18) rfl rfl ?_
          refine XS.iloadN X0.here hexec rfl (hb hbytes d19) rfl ?_
          refine X0.aget hexec hB0 rfl (yv_get hB tB (i := i) (by omega)) rfl rfl (hb hbytes d20) ?_
          exact Steps.refl _)
        by_cases hv : yv A i = yv B i
        · have c5 : Steps p.tables e below (s₁.setTop (entryFrame m #[.ref a, .ref b] 3)) (s₁.setTop (mkF m 9 #[.val (.ref a), .val (.ref b), .val (.int (Int32.ofNat i + 1))] [])) := c4.trans (by
            refine XS.icmpYes X0.here hexec rfl (pc0 := 21) rfl (hb hbytes d21) rfl (ii_eq_t hv) (by decide) rfl ?_
            refine iincV X0.here hexec rfl 1 (hb hbytes d26) (by decide) rfl rfl ?_
            refine XS.goto X0.here hexec rfl (pc0 := 29) rfl (hb hbytes d29) (by decide) rfl ?_
            exact Steps.refl _)
          rw [succ32] at c5
          exact ih (i + 1) (by omega) (fun j hj => by
            by_cases e : j = i
            · rw [e]; exact hv
            · exact he j (by omega)) c5
        · exact ⟨25, _, 0, Or.inl rfl, Or.inr ⟨rfl, fun q => hv (q.2 i (by omega))⟩, c4.trans (by
            refine XS.icmpNo X0.here hexec rfl (hb hbytes d21) rfl (ii_eq_f hv) ?_
            refine iconstV X0.here hexec rfl 0 (hb hbytes d24) (by decide) ?_
            exact Steps.refl _)⟩
    obtain ⟨pc, Ls, v, hpc, hv, cz⟩ := loop A.slots.size 0 (by omega) (fun j hj => absurd hj (Nat.not_lt_zero j)) c3
    have nv : narrow .boolean (.int v) = .int v := by rcases hv with ⟨rfl, -⟩ | ⟨rfl, -⟩ <;> rfl
    rcases hpc with rfl | rfl
    · exact ⟨s₁, some (.int v), _, _, _, X0, rfl, rfl, rfl, (fun h => by cases h), ⟨v, rfl, hh0, hv⟩, fun fs hl => cz.trans (X0.ireturnOut hexec hret nv (Or.inr (Or.inl rfl)) (hb hbytes d25) hl)⟩
    · exact ⟨s₁, some (.int v), _, _, _, X0, rfl, rfl, rfl, (fun h => by cases h), ⟨v, rfl, hh0, hv⟩, fun fs hl => cz.trans (X0.ireturnOut hexec hret nv (Or.inr (Or.inl rfl)) (hb hbytes d33) hl)⟩
  · have c3 : Steps p.tables e below (s₁.setTop (entryFrame m #[.ref a, .ref b] 3)) (s₁.setTop (mkF m 35 #[.val (.ref a), .val (.ref b), .unset] [.int 0])) := c2.trans (by
      refine XS.icmpYes X0.here hexec rfl (pc0 := 4) rfl (hb hbytes d4) rfl (ii_ne_t (ne32 a31 b31 hs)) (by decide) rfl ?_
      refine iconstV X0.here hexec rfl 0 (hb hbytes d34) (by decide) ?_
      exact Steps.refl _)
    exact ⟨s₁, some (.int 0), _, _, _, X0, rfl, rfl, rfl, (fun h => by cases h), ⟨0, rfl, hh0, Or.inr ⟨rfl, fun q => hs q.1⟩⟩, fun fs hl => c3.trans (X0.ireturnOut hexec hret rfl (Or.inr (Or.inl rfl)) (hb hbytes d35) hl)⟩
end LEq
theorem Cod.ty {cd : Int32} {n : Nat} {f : Nat → Int32} {V : Cell} (h : Cod cd n f V) : Typed .byte V := fun i v hv => by
  have hi : i < V.slots.size := (Array.getElem?_eq_some_iff.mp hv).1
  rcases h with ⟨-, k1, k2⟩ | ⟨-, k1, k2, -⟩
  · rw [(k2 i (by omega)).1] at hv; cases hv; exact fits_lo8 _
  · rcases Nat.mod_two_eq_zero_or_one i with e | e
    · obtain ⟨j, rfl⟩ : ∃ j, i = 2 * j := ⟨i / 2, by omega⟩
      rw [(k2 j (by omega)).1] at hv; cases hv; exact fits_lo8 _
    · obtain ⟨j, rfl⟩ : ∃ j, i = 2 * j + 1 := ⟨i / 2, by omega⟩
      rw [(k2 j (by omega)).2] at hv; cases hv; exact fits_lo8 _
/-- the same text -/
def SameT (n : Nat) (f : Nat → Int32) (k : Nat) (g : Nat → Int32) : Prop := n = k ∧ ∀ j, j < n → f j = g j
theorem lo8_inj {x y : Int32} (h0 : ¬ x < 0) (h1 : ¬ 255 < x) (k0 : ¬ y < 0) (k1 : ¬ 255 < y) (h : lo8 x = lo8 y) : x = y := by
  rw [← lo8_mask h0 h1, ← lo8_mask k0 k1, h]
/-- arrays coded by one coder are equal just where the texts are -/
theorem Cod.eqv {cd : Int32} {n k : Nat} {f g : Nat → Int32} {V V' : Cell} (h : Cod cd n f V) (h' : Cod cd k g V') (hf : ∀ j, j < n → ¬ f j < 0 ∧ ¬ 65535 < f j) (hg : ∀ j, j < k → ¬ g j < 0 ∧ ¬ 65535 < g j) : EqC V V' ↔ SameT n f k g := by
  have yvv : ∀ {W : Cell} {i : Nat} {x : Int32}, W.slots[i]? = some (.int x) → yv W i = x := fun q => by unfold yv; rw [q]
  rcases h with ⟨rfl, k1, k2⟩ | ⟨rfl, k1, k2, -⟩
  · rcases h' with ⟨-, m1, m2⟩ | ⟨e, -⟩
    · constructor
      · rintro ⟨e1, e2⟩
        refine ⟨by omega, fun j hj => ?_⟩
        have q := e2 j (by omega)
        rw [yvv (k2 j hj).1, yvv (m2 j (by omega)).1] at q
        exact lo8_inj (hf j hj).1 (k2 j hj).2 (hg j (by omega)).1 (m2 j (by omega)).2 q
      · rintro ⟨rfl, e2⟩
        refine ⟨by omega, fun j hj => ?_⟩
        rw [yvv (k2 j (by omega)).1, yvv (m2 j (by omega)).1, e2 j (by omega)]
    · exact absurd e (by decide)
  · rcases h' with ⟨e, -⟩ | ⟨-, m1, m2, -⟩
    · exact absurd e (by decide)
    · constructor
      · rintro ⟨e1, e2⟩
        refine ⟨by omega, fun j hj => ?_⟩
        have q1 := e2 (2 * j) (by omega)
        have q2 := e2 (2 * j + 1) (by omega)
        rw [yvv (k2 j hj).1, yvv (m2 j (by omega)).1] at q1
        rw [yvv (k2 j hj).2, yvv (m2 j (by omega)).2] at q2
        rw [← pair_says (hf j hj).1 (hf j hj).2, ← pair_says (hg j (by omega)).1 (hg j (by omega)).2, q1, q2]
      · rintro ⟨rfl, e2⟩
        refine ⟨by omega, fun i hi => ?_⟩
        rcases Nat.mod_two_eq_zero_or_one i with e | e
        · obtain ⟨j, rfl⟩ : ∃ j, i = 2 * j := ⟨i / 2, by omega⟩
          rw [yvv (k2 j (by omega)).1, yvv (m2 j (by omega)).1, e2 j (by omega)]
        · obtain ⟨j, rfl⟩ : ∃ j, i = 2 * j + 1 := ⟨i / 2, by omega⟩
          rw [yvv (k2 j (by omega)).2, yvv (m2 j (by omega)).2, e2 j (by omega)]
/-- two codings differ: so do the texts -/
theorem Cod.dif {cd cd' : Int32} {n k : Nat} {f g : Nat → Int32} {V V' : Cell} (h : Cod cd n f V) (h' : Cod cd' k g V') (hne : ¬ cd = cd') : ¬ SameT n f k g := by
  rintro ⟨rfl, e⟩
  rcases h with ⟨rfl, -, k2⟩ | ⟨rfl, -, -, j, hj, hw⟩
  · rcases h' with ⟨rfl, -⟩ | ⟨-, -, -, j, hj, hw⟩
    · exact hne rfl
    · exact (k2 j hj).2 (by rw [e j hj]; exact hw)
  · rcases h' with ⟨-, -, m2⟩ | ⟨rfl, -⟩
    · exact (m2 j hj).2 (by rw [← e j hj]; exact hw)
    · exact hne rfl
/-- an object of exactly C is an instance of C -/
theorem cinst {p : Program} {l : Launch} {e : Env} {R : Room} {s : State} {m : MethodId} {args : Array Value} {below : List Frame} {meth : Method} {c : Code} {T : State} {locs : List Loc} {cells slots : Nat} (X : Stand p l e R s m args below meth c T locs cells slots) (hexec : p.tables.exec = Jvm.exec) {own C : String} {index : Nat} (hown : s.vm.findClass own = some m.cls) (hlink : (Cond.classLink own index C).before args s = true) {a : Addr} (hE : Exact C a T)
    {g : JFrame} (hg : g.method = m) {rest : List Value} (hstack : g.stack = .ref a :: rest) (hdg : decode c.code g.pc = .ok (.instanceof index, 3)) :
    ∃ T', Stand p l e R s m args below meth c T' locs cells slots ∧ T'.heap = T.heap ∧ ∀ target, Steps p.tables e below (T'.setTop { g with pc := g.pc + 3, stack := .int 1 :: rest }) target → Steps p.tables e below (T.setTop g) target := by
  obtain ⟨cB, h1, D, h2, h3, h4⟩ := hE
  have h1' : s.vm.findClass C = some cB := by rw [← X.warmed.alike.findClass]; exact h1
  obtain ⟨vm', X', st⟩ := X.instanceofYes hexec hown hlink h2 h4 h1' (by rw [h3]; exact Jvm.Free.SB.assignable_self _ _) hg hstack hdg
  exact ⟨_, X', rfl, st⟩
theorem cself {p : Program} {l : Launch} {e : Env} {R : Room} {s : State} {m : MethodId} {args : Array Value} {below : List Frame} {meth : Method} {c : Code} {T : State} {locs : List Loc} {cells slots : Nat} (X : Stand p l e R s m args below meth c T locs cells slots) (hexec : p.tables.exec = Jvm.exec) {own C : String} {index : Nat} (hown : s.vm.findClass own = some m.cls) (hlink : (Cond.classLink own index C).before args s = true) {a : Addr} (hE : Exact C a T)
    {g : JFrame} (hg : g.method = m) {rest : List Value} (hstack : g.stack = .ref a :: rest) (hdg : decode c.code g.pc = .ok (.checkcast index, 3)) :
    ∃ T', Stand p l e R s m args below meth c T' locs cells slots ∧ T'.heap = T.heap ∧ ∀ target, Steps p.tables e below (T'.setTop { g with pc := g.pc + 3, stack := .ref a :: rest }) target → Steps p.tables e below (T.setTop g) target := by
  obtain ⟨cB, h1, D, h2, h3, h4⟩ := hE
  have h1' : s.vm.findClass C = some cB := by rw [← X.warmed.alike.findClass]; exact h1
  obtain ⟨vm', X', st⟩ := X.checkcastYes hexec hown hlink h2 h4 h1' (by rw [h3]; exact Jvm.Free.SB.assignable_self _ _) hg hstack hdg
  exact ⟨_, X', rfl, fun t h => st t (by rw [← hstack] at h; exact h)⟩
namespace SEq
def yN : MethodName := ⟨"java/lang/String", "equals", "(Ljava/lang/Object;)Z"⟩
abbrev yB : ByteArray := jdk_42_method_66_code
theorem d0 : decode yB 0 = .ok (.aload_n 0, 1) := by decide +kernel
theorem d1 : decode yB 1 = .ok (.aload_n 1, 1) := by decide +kernel
theorem d2 : decode yB 2 = .ok (.if_acmp (.ne) 5, 3) := by decide +kernel
theorem d5 : decode yB 5 = .ok (.iconst 1, 1) := by decide +kernel
theorem d6 : decode yB 6 = .ok (.ireturn, 1) := by decide +kernel
theorem d7 : decode yB 7 = .ok (.aload_n 1, 1) := by decide +kernel
theorem d8 : decode yB 8 = .ok (.instanceof 10, 3) := by decide +kernel
theorem d11 : decode yB 11 = .ok (.ifCond (.eq) 43, 3) := by decide +kernel
theorem d14 : decode yB 14 = .ok (.aload_n 1, 1) := by decide +kernel
theorem d15 : decode yB 15 = .ok (.checkcast 10, 3) := by decide +kernel
theorem d18 : decode yB 18 = .ok (.astore_n 2, 1) := by decide +kernel
theorem d19 : decode yB 19 = .ok (.getstatic 38, 3) := by decide +kernel
theorem d22 : decode yB 22 = .ok (.ifCond (.eq) 14, 3) := by decide +kernel
theorem d25 : decode yB 25 = .ok (.aload_n 0, 1) := by decide +kernel
theorem d26 : decode yB 26 = .ok (.getfield 15, 3) := by decide +kernel
theorem d29 : decode yB 29 = .ok (.aload_n 2, 1) := by decide +kernel
theorem d30 : decode yB 30 = .ok (.getfield 15, 3) := by decide +kernel
theorem d33 : decode yB 33 = .ok (.if_icmp (.ne) 21, 3) := by decide +kernel
theorem d36 : decode yB 36 = .ok (.aload_n 0, 1) := by decide +kernel
theorem d37 : decode yB 37 = .ok (.getfield 9, 3) := by decide +kernel
theorem d40 : decode yB 40 = .ok (.aload_n 2, 1) := by decide +kernel
theorem d41 : decode yB 41 = .ok (.getfield 9, 3) := by decide +kernel
theorem d44 : decode yB 44 = .ok (.invokestatic 541, 3) := by decide +kernel
theorem d47 : decode yB 47 = .ok (.ifCond (.eq) 7, 3) := by decide +kernel
theorem d50 : decode yB 50 = .ok (.iconst 1, 1) := by decide +kernel
theorem d51 : decode yB 51 = .ok (.goto 4, 3) := by decide +kernel
theorem d54 : decode yB 54 = .ok (.iconst 0, 1) := by decide +kernel
theorem d55 : decode yB 55 = .ok (.ireturn, 1) := by decide +kernel
def site : List Cond := [.classLink "java/lang/String" 10 "java/lang/String", .fieldLink "java/lang/String" 38 "java/lang/String" "COMPACT_STRINGS" "Z", .fieldLink "java/lang/String" 15 "java/lang/String" "coder" "B", .fieldLink "java/lang/String" 9 "java/lang/String" "value" "[B", LEq.tab] ++ staticW "java/lang/String" 541 LEq.yN
def tab : Cond := tabOf yN yB 3 (some .boolean) site
def P (x t : Addr) (V : Cell) (cd : Int32) (n : Nat) (f : Nat → Int32) (y t' : Addr) (V' : Cell) (cd' : Int32) (k : Nat) (g : Nat → Int32) (z : Int32) (args : Array Value) (s : State) : Prop := args = #[.ref x, .ref y] ∧ Txt x t V cd n f s ∧ Txt y t' V' cd' k g s ∧ StaticIs s "java/lang/String" "COMPACT_STRINGS" "Z" (.int z) ∧ ¬ z = 0
/-- equals(Object) of two Strings: whether the texts are the same -/
theorem law (l : Launch) (x t : Addr) (V : Cell) (cd : Int32) (n : Nat) (f : Nat → Int32) (y t' : Addr) (V' : Cell) (cd' : Int32) (k : Nat) (g : Nat → Int32) (z : Int32) : Law l yN 2 1 1 14 yB 3 (some .boolean) site (P x t V cd n f y t' V' cd' k g z) (Says01 (SameT n f k g)) [] 0 0 := by
  refine Law.of_walk (plainFor_of_name (by decide +kernel)) (by decide +kernel) (by decide +kernel) (by decide) (fun _ _ h => by rw [h.1]; rfl) (fun _ U U' hal hh h => ⟨h.1, h.2.1.mv hal hh, h.2.2.1.mv hal hh, h.2.2.2.1.there hal hh, h.2.2.2.2⟩) (fun r U U' V V' h1 hal h2 h => Says01.mv r U U' V V' h1 hal h2 h) ?_
  intro p e s m args below meth c s₁ X0 hexec hbytes hml hret hlk hnm hown hh0 W hP
  obtain ⟨rfl, hx, hy, s1, hz⟩ := hP
  have c1 : Steps p.tables e below (s₁.setTop (entryFrame m #[.ref x, .ref y] 3)) (s₁.setTop (mkF m 2 #[.val (.ref x), .val (.ref y), .unset] [.ref y, .ref x])) := Steps.trans (entry rfl) (by
    show Steps p.tables e below (s₁.setTop (mkF m 0 #[.val (.ref x), .val (.ref y), .unset] [])) _
    refine XS.aloadN X0.here hexec rfl (hb hbytes d0) rfl rfl ?_
    refine XS.aloadN X0.here hexec rfl (hb hbytes d1) rfl rfl ?_
    exact Steps.refl _)
  by_cases hxy : x = y
  · have c2 : Steps p.tables e below (s₁.setTop (entryFrame m #[.ref x, .ref y] 3)) (s₁.setTop (mkF m 6 #[.val (.ref x), .val (.ref y), .unset] [.int 1])) := c1.trans (by
      refine acmpNo X0.here hexec rfl (hb hbytes d2) rfl rfl rfl (by simp [acmp, hxy]) ?_
      refine iconstV X0.here hexec rfl 1 (hb hbytes d5) (by decide) ?_
      exact Steps.refl _)
    subst hxy
    have ec : cd = cd' := by
      obtain ⟨D, fd, a1, a2, a3⟩ := hx.2.2.1
      obtain ⟨D', fd', b1, b2, b3⟩ := hy.2.2.1
      cases a1.symm.trans b1
      obtain ⟨q1, q2, q3, q4⟩ := a2.1
      obtain ⟨r1, r2, r3, r4⟩ := b2.1
      cases q4.symm.trans r4
      cases a3.symm.trans b3; rfl
    have et : t = t' := by
      obtain ⟨D, fd, a1, a2, a3⟩ := hx.2.1
      obtain ⟨D', fd', b1, b2, b3⟩ := hy.2.1
      cases a1.symm.trans b1
      obtain ⟨q1, q2, q3, q4⟩ := a2.1
      obtain ⟨r1, r2, r3, r4⟩ := b2.1
      cases q4.symm.trans r4
      cases a3.symm.trans b3; rfl
    subst ec et
    have ev : V = V' := by cases hx.2.2.2.1.1.symm.trans hy.2.2.2.1.1; rfl
    subst ev
    have hs : SameT n f k g := (Cod.eqv hx.2.2.2.2.1 hy.2.2.2.2.1 hx.2.2.2.2.2 hy.2.2.2.2.2).mp ⟨rfl, fun _ _ => rfl⟩
    exact ⟨s₁, some (.int 1), _, _, _, X0, rfl, rfl, rfl, (fun h => by cases h), ⟨1, rfl, hh0, Or.inl ⟨rfl, hs⟩⟩, fun fs hl => c2.trans (X0.ireturnOut hexec hret rfl (Or.inr (Or.inl rfl)) (hb hbytes d6) hl)⟩
  · have c2 : Steps p.tables e below (s₁.setTop (entryFrame m #[.ref x, .ref y] 3)) (s₁.setTop (mkF m 8 #[.val (.ref x), .val (.ref y), .unset] [.ref y])) := c1.trans (by
      refine acmpYes X0.here hexec rfl (pc0 := 2) rfl (hb hbytes d2) rfl rfl rfl (by simp [acmp, hxy]) (by decide) rfl ?_
      refine XS.aloadN X0.here hexec rfl (hb hbytes d7) rfl rfl ?_
      exact Steps.refl _)
    obtain ⟨T3, X3, q3, st3⟩ := cinst X0 hexec hown (wk W (.classLink "java/lang/String" 10 "java/lang/String")) (hy.mv X0.warmed.alike hh0).1 (g := (mkF m 8 #[.val (.ref x), .val (.ref y), .unset] [.ref y])) rfl (rest := []) rfl (hb hbytes d8)
    have hh3 := q3.trans hh0
    have c4 : Steps p.tables e below (s₁.setTop (entryFrame m #[.ref x, .ref y] 3)) (T3.setTop (mkF m 15 #[.val (.ref x), .val (.ref y), .unset] [.ref y])) := (c2.trans (st3 _ (Steps.refl _))).trans (by
      refine XS.ifNo X3.here hexec rfl (hb hbytes d11) rfl (i0_eq_f (by decide)) ?_
      refine XS.aloadN X3.here hexec rfl (hb hbytes d14) rfl rfl ?_
      exact Steps.refl _)
    obtain ⟨T5, X5, q5, st5⟩ := cself X3 hexec hown (wk W (.classLink "java/lang/String" 10 "java/lang/String")) (hy.mv X3.warmed.alike hh3).1 (g := (mkF m 15 #[.val (.ref x), .val (.ref y), .unset] [.ref y])) rfl (rest := []) rfl (hb hbytes d15)
    have hh5 := q5.trans hh3
    have c6 : Steps p.tables e below (s₁.setTop (entryFrame m #[.ref x, .ref y] 3)) (T5.setTop (mkF m 19 #[.val (.ref x), .val (.ref y), .val (.ref y)] [])) := (c4.trans (st5 _ (Steps.refl _))).trans (by
      refine XS.astoreN X5.here hexec rfl (hb hbytes d18) rfl rfl rfl ?_
      exact Steps.refl _)
    obtain ⟨T7, X7, q7, st7⟩ := X5.sget hexec hown (wk W (.fieldLink "java/lang/String" 38 "java/lang/String" "COMPACT_STRINGS" "Z")) s1 (fun _ _ h => by rw [hh5]; exact h) (g := (mkF m 19 #[.val (.ref x), .val (.ref y), .val (.ref y)] [])) rfl (hb hbytes d19)
    have hh7 := q7.trans hh5
    have c8 : Steps p.tables e below (s₁.setTop (entryFrame m #[.ref x, .ref y] 3)) (T7.setTop (mkF m 26 #[.val (.ref x), .val (.ref y), .val (.ref y)] [.ref x])) := (c6.trans (st7 _ (Steps.refl _))).trans (by
      refine XS.ifNo X7.here hexec rfl (hb hbytes d22) rfl (i0_eq_f hz) ?_
      refine XS.aloadN X7.here hexec rfl (hb hbytes d25) rfl rfl ?_
      exact Steps.refl _)
    obtain ⟨T9, X9, q9, st9⟩ := X7.hget hexec hown (wk W (.fieldLink "java/lang/String" 15 "java/lang/String" "coder" "B")) (hx.mv X7.warmed.alike hh7).2.2.1 (g := (mkF m 26 #[.val (.ref x), .val (.ref y), .val (.ref y)] [.ref x])) rfl (rest := []) rfl (hb hbytes d26)
    have hh9 := q9.trans hh7
    have c10 : Steps p.tables e below (s₁.setTop (entryFrame m #[.ref x, .ref y] 3)) (T9.setTop (mkF m 30 #[.val (.ref x), .val (.ref y), .val (.ref y)] [.ref y, .int cd])) := (c8.trans (st9 _ (Steps.refl _))).trans (by
      refine XS.aloadN X9.here hexec rfl (hb hbytes d29) rfl rfl ?_
      exact Steps.refl _)
    obtain ⟨T11, X11, q11, st11⟩ := X9.hget hexec hown (wk W (.fieldLink "java/lang/String" 15 "java/lang/String" "coder" "B")) (hy.mv X9.warmed.alike hh9).2.2.1 (g := (mkF m 30 #[.val (.ref x), .val (.ref y), .val (.ref y)] [.ref y, .int cd])) rfl (rest := [.int cd]) rfl (hb hbytes d30)
    have hh11 := q11.trans hh9
    have c12 : Steps p.tables e below (s₁.setTop (entryFrame m #[.ref x, .ref y] 3)) (T11.setTop (mkF m 33 #[.val (.ref x), .val (.ref y), .val (.ref y)] [.int cd', .int cd])) := c10.trans (st11 _ (Steps.refl _))
    by_cases hcd : cd = cd'
    · subst hcd
      have c13 : Steps p.tables e below (s₁.setTop (entryFrame m #[.ref x, .ref y] 3)) (T11.setTop (mkF m 37 #[.val (.ref x), .val (.ref y), .val (.ref y)] [.ref x])) := c12.trans (by
        refine XS.icmpNo X11.here hexec rfl (hb hbytes d33) rfl (ii_ne_f rfl) ?_
        refine XS.aloadN X11.here hexec rfl (hb hbytes d36) rfl rfl ?_
        exact Steps.refl _)
      obtain ⟨T14, X14, q14, st14⟩ := X11.hget hexec hown (wk W (.fieldLink "java/lang/String" 9 "java/lang/String" "value" "[B")) (hx.mv X11.warmed.alike hh11).2.1 (g := (mkF m 37 #[.val (.ref x), .val (.ref y), .val (.ref y)] [.ref x])) rfl (rest := []) rfl (hb hbytes d37)
      have hh14 := q14.trans hh11
      have c15 : Steps p.tables e below (s₁.setTop (entryFrame m #[.ref x, .ref y] 3)) (T14.setTop (mkF m 41 #[.val (.ref x), .val (.ref y), .val (.ref y)] [.ref y, .ref t])) := (c13.trans (st14 _ (Steps.refl _))).trans (by
        refine XS.aloadN X14.here hexec rfl (hb hbytes d40) rfl rfl ?_
        exact Steps.refl _)
      obtain ⟨T16, X16, q16, st16⟩ := X14.hget hexec hown (wk W (.fieldLink "java/lang/String" 9 "java/lang/String" "value" "[B")) (hy.mv X14.warmed.alike hh14).2.1 (g := (mkF m 41 #[.val (.ref x), .val (.ref y), .val (.ref y)] [.ref y, .ref t])) rfl (rest := [.ref t]) rfl (hb hbytes d41)
      have hh16 := q16.trans hh14
      have c17 : Steps p.tables e below (s₁.setTop (entryFrame m #[.ref x, .ref y] 3)) (T16.setTop (mkF m 44 #[.val (.ref x), .val (.ref y), .val (.ref y)] [.ref t', .ref t])) := c15.trans (st16 _ (Steps.refl _))
      obtain ⟨v18, T18, X18, E18, g18⟩ := X16.callS hexec (LEq.law l t V t' V') hown (wks W (staticW "java/lang/String" 541 LEq.yN)) (wk W LEq.tab) (W := 0) (Nat.le_of_ble_eq_true rfl) (Nat.le_of_ble_eq_true rfl) (Nat.le_refl _) (Nat.le_refl _) (g := (mkF m 44 #[.val (.ref x), .val (.ref y), .val (.ref y)] [.ref t', .ref t])) rfl (by rw [hml]; rfl) c17 (argsL := [.ref t, .ref t']) (rest := []) rfl rfl (by show 2 * 0 + 0 ≤ _; decide) (hb hbytes d44) (⟨rfl, hx.2.2.2.1.mv X16.warmed.alike hh16, hx.2.2.2.2.1.ty, hy.2.2.2.1.mv X16.warmed.alike hh16, hy.2.2.2.2.1.ty⟩)
      obtain ⟨v, rfl, q18, hv⟩ := E18
      have iff := Cod.eqv hx.2.2.2.2.1 hy.2.2.2.2.1 hx.2.2.2.2.2 hy.2.2.2.2.2
      rcases hv with ⟨rfl, he⟩ | ⟨rfl, he⟩
      · have c19 : Steps p.tables e below (s₁.setTop (entryFrame m #[.ref x, .ref y] 3)) (T18.setTop (mkF m 55 #[.val (.ref x), .val (.ref y), .val (.ref y)] [.int 1])) := Steps.trans g18 (by
          refine XS.ifNo X18.here hexec rfl (hb hbytes d47) rfl (i0_eq_f (by decide)) ?_
          refine iconstV X18.here hexec rfl 1 (hb hbytes d50) (by decide) ?_
          refine XS.goto X18.here hexec rfl (pc0 := 51) rfl (hb hbytes d51) (by decide) rfl ?_
          exact Steps.refl _)
        exact ⟨T18, some (.int 1), _, _, _, X18, rfl, rfl, rfl, (fun h => by cases h), ⟨1, rfl, q18.trans hh16, Or.inl ⟨rfl, iff.mp he⟩⟩, fun fs hl => c19.trans (X18.ireturnOut hexec hret rfl (Or.inr (Or.inl rfl)) (hb hbytes d55) hl)⟩
      · have c19 : Steps p.tables e below (s₁.setTop (entryFrame m #[.ref x, .ref y] 3)) (T18.setTop (mkF m 55 #[.val (.ref x), .val (.ref y), .val (.ref y)] [.int 0])) := Steps.trans g18 (by
          refine XS.ifYes X18.here hexec rfl (pc0 := 47) rfl (hb hbytes d47) rfl (i0_eq_t rfl) (by decide) rfl ?_
          refine iconstV X18.here hexec rfl 0 (hb hbytes d54) (by decide) ?_
          exact Steps.refl _)
        exact ⟨T18, some (.int 0), _, _, _, X18, rfl, rfl, rfl, (fun h => by cases h), ⟨0, rfl, q18.trans hh16, Or.inr ⟨rfl, fun q => he (iff.mpr q)⟩⟩, fun fs hl => c19.trans (X18.ireturnOut hexec hret rfl (Or.inr (Or.inl rfl)) (hb hbytes d55) hl)⟩
    · have c13 : Steps p.tables e below (s₁.setTop (entryFrame m #[.ref x, .ref y] 3)) (T11.setTop (mkF m 55 #[.val (.ref x), .val (.ref y), .val (.ref y)] [.int 0])) := c12.trans (by
        refine XS.icmpYes X11.here hexec rfl (pc0 := 33) rfl (hb hbytes d33) rfl (ii_ne_t hcd) (by decide) rfl ?_
        refine iconstV X11.here hexec rfl 0 (hb hbytes d54) (by decide) ?_
        exact Steps.refl _)
      exact ⟨T11, some (.int 0), _, _, _, X11, rfl, rfl, rfl, (fun h => by cases h), ⟨0, rfl, hh11, Or.inr ⟨rfl, Cod.dif hx.2.2.2.2.1 hy.2.2.2.2.1 hcd⟩⟩, fun fs hl => c13.trans (X11.ireturnOut hexec hret rfl (Or.inr (Or.inl rfl)) (hb hbytes d55) hl)⟩
theorem pays {l : Launch} {R : Room} {p : Program} {e : Env} {below : List Frame} {s : State} {sargs : Array Value} {len W : Nat} (x t : Addr) (V : Cell) (cd : Int32) (n : Nat) (f : Nat → Int32) (y t' : Addr) (V' : Cell) (cd' : Int32) (k : Nat) (g : Nat → Int32) (z : Int32) (htab : tab.before sargs s = true) (hfr : 2 ≤ R.frames) (hlo : W + 28 ≤ R.locals) :
    Back l R p e below s sargs yN len W (fun A₁ a₁ => A₁.cells + 0 ≤ R.cells ∧ A₁.slots + 0 ≤ R.slots ∧ P x t V cd n f y t' V' cd' k g z a₁ A₁.U) (fun A₁ _ v₁ B₁ => Says01 (SameT n f k g) v₁ A₁.U B₁.U ∧ B₁.locs = A₁.locs ++ [] ∧ B₁.cells = A₁.cells + 0 ∧ B₁.slots = A₁.slots + 0) :=
  (law l x t V cd n f y t' V' cd' k g z).pays htab hfr (by omega)
end SEq
end StrChars
namespace StrChars.Road
open Jvm Sem ClassFile Op Lib Jvm.Stand Jvm.Free Jvm.Free.XT
open Jvm.Lib.Cold (StaticIs)
/-- the words of String.equals(Object) -/
abbrev wordsEq : List Jvm.Cond := [.code SEq.yN SEq.yB 3 (some .boolean), .initialized ST, .classLink ST 10 ST, .fieldLink ST 38 ST "COMPACT_STRINGS" "Z", .fieldLink ST 15 ST "coder" "B", .fieldLink ST 9 ST "value" "[B", .methodLink ST 541 LEq.yN, .static LEq.yN, .code LEq.yN LEq.yB 3 (some .boolean), .initialized "java/lang/StringLatin1"]
theorem tabEq_of {a : Array Value} {s : State} (h : ∀ w ∈ wordsEq, w.before a s = true) : SEq.tab.before a s = true := by
  have hl : LEq.tab.before a s = true := unparts (wk h (.code LEq.yN LEq.yB 3 (some .boolean))) (wks h (.initialized LEq.yN.cls :: LEq.site))
  have q := consq hl h
  exact unparts (wk q (.code SEq.yN SEq.yB 3 (some .boolean))) (wks q (.initialized SEq.yN.cls :: SEq.site))
theorem movedEq {Z s : State} {a0 args : Array Value} (hZ : Z.Warmed39 s.vm) (hw : ∀ d ∈ wordsEq, d.before a0 Z = true) : ∀ d ∈ wordsEq, d.before args s = true := fun d hd => by
  have t : ∀ d ∈ wordsEq, (d.onTables && d.keepsFace) = true := by decide +kernel
  exact RoadKit.mv hZ (hw d hd) (t d hd)
/-- the road's facts of a String, as the laws ask it -/
theorem txt_of {Z U : State} {a0 : Array Value} {kI : Nat} (wi : (Jvm.Cond.instantiable ST kI).before a0 Z = true) (al : Z.vm.Alike U.vm) {x t : Addr} {kb : ClassId} {cs : List Int32} {cd N2 : Int32} {vs : List Value} (E : RoadKit.Exa Z U.heap x ST) (V : RoadKit.Fld Z U.heap x ST "value" "[B" (.ref t)) (C : RoadKit.Fld Z U.heap x ST "coder" "B" (.int cd)) (K : RoadKit.Arv Z U.heap t kb .byte N2 vs (.int 0)) (hc : CodA cs cd N2 vs) (hb : ∀ c ∈ cs, ¬ c < 0 ∧ ¬ (65535 : Int32) < c) (l2 : cs.length ≤ 4000) :
    ∃ A, Txt x t A cd cs.length (fun j => cs.getD j 0) U := by
  obtain ⟨A, K1, K2, K3, K4, K5, K6⟩ := K
  have hcod := hc.cod (by omega) K3 K5
  obtain ⟨D, fV, fC, hB, F1, F2, g1, g2, -, -⟩ := strObj wi al E V C
  exact ⟨A, ⟨_, hB.2.2.1, D, hB.1, rfl, by cases q : D.vm <;> first | rfl | exact absurd q (hB.2.1.2 _)⟩, Has.of hB F1 g1, Has.of hB F2 g2, ⟨K1.1, State.isArrayOf_alike al K1.2.1, K1.2.2, by rcases hcod with ⟨-, q, -⟩ | ⟨-, q, -⟩ <;> omega⟩, hcod, fun j hj => by
    have e : cs.getD j 0 = cs[j] := by simp [List.getD_eq_getElem?_getD, hj]
    show ¬ cs.getD j 0 < 0 ∧ ¬ 65535 < cs.getD j 0
    rw [e]; exact hb _ (List.getElem_mem _)⟩
theorem same_list (cs ds : List Int32) : SameT cs.length (fun j => cs.getD j 0) ds.length (fun j => ds.getD j 0) ↔ cs = ds := by
  constructor
  · rintro ⟨e, q⟩
    refine List.ext_getElem e fun j h1 h2 => ?_
    have := q j h1
    simpa [List.getD_eq_getElem?_getD, h1, h2] using this
  · rintro rfl
    exact ⟨rfl, fun _ _ => rfl⟩
/-- **equals(Object) OF TWO SUCH STRINGS**: 1 just where the chars are the same -/
theorem eqW {p : Program} {l : Launch} {e : Env} {R : Room} {s : State} {args : Array Value} {below : List Frame} {len W : Nat} {Z : State} {a0 : Array Value} {h : Heap} (hZ : Z.Warmed39 s.vm) (hw : ∀ d ∈ wordsEq, d.before a0 Z = true) {kI : Nat} (wi : (Jvm.Cond.instantiable ST kI).before a0 Z = true)
    {x t : Addr} {kb : ClassId} {cs : List Int32} {cd N2 : Int32} {vs : List Value} (E : RoadKit.Exa Z h x ST) (V : RoadKit.Fld Z h x ST "value" "[B" (.ref t)) (C : RoadKit.Fld Z h x ST "coder" "B" (.int cd)) (K : RoadKit.Arv Z h t kb .byte N2 vs (.int 0)) (hc : CodA cs cd N2 vs) (hb : ∀ c ∈ cs, ¬ c < 0 ∧ ¬ (65535 : Int32) < c) (l2 : cs.length ≤ 4000)
    {y t' : Addr} {kb' : ClassId} {ds : List Int32} {cd' N2' : Int32} {vs' : List Value} (E' : RoadKit.Exa Z h y ST) (V' : RoadKit.Fld Z h y ST "value" "[B" (.ref t')) (C' : RoadKit.Fld Z h y ST "coder" "B" (.int cd')) (K' : RoadKit.Arv Z h t' kb' .byte N2' vs' (.int 0)) (hc' : CodA ds cd' N2' vs') (hb' : ∀ c ∈ ds, ¬ c < 0 ∧ ¬ (65535 : Int32) < c) (l2' : ds.length ≤ 4000)
    {z : Int32} (S : RoadKit.Sta Z h ST "COMPACT_STRINGS" "Z" (.int z)) (hz : ¬ z = 0) (hfr : 2 ≤ R.frames) (hlo : W + 28 ≤ R.locals) :
    Back l R p e below s args (⟨"java/lang/String", "equals", "(Ljava/lang/Object;)Z"⟩ : MethodName) len W (fun P a => a = #[.ref x, .ref y] ∧ P.U.heap = h ∧ P.cells + 0 ≤ R.cells ∧ P.slots + 0 ≤ R.slots)
      (fun P _ v B => ∃ L, (((v = some (.int 1) ∧ cs = ds) ∨ (v = some (.int 0) ∧ ¬ cs = ds)) ∧ L = [] ∧ B.U.heap = h) ∧ B.locs = P.locs ++ L ∧ B.cells = P.cells + 0 ∧ B.slots = P.slots + 0) := by
  intro m meth c P g ig mk a X hg hsize hdg hW hn hp'
  obtain ⟨rfl, rfl, r1, r2⟩ := hp'
  have al : Z.vm.Alike P.U.vm := hZ.alike.trans X.warmed.alike
  obtain ⟨A, hx⟩ := txt_of wi al E V C K hc hb l2
  obtain ⟨A', hy⟩ := txt_of wi al E' V' C' K' hc' hb' l2'
  obtain ⟨v, B, X', ⟨⟨w, hv, hh, hq⟩, hl, hk, hs⟩, st⟩ := SEq.pays x t A cd cs.length (fun j => cs.getD j 0) y t' A' cd' ds.length (fun j => ds.getD j 0) z (tabEq_of (movedEq hZ hw)) hfr hlo m meth c P g ig mk _ X hg hsize hdg hW hn ⟨r1, r2, rfl, hx, hy, sta_is al S, hz⟩
  refine ⟨v, B, X', ⟨[], ⟨?_, rfl, hh⟩, hl, hk, hs⟩, st⟩
  rcases hq with ⟨rfl, q⟩ | ⟨rfl, q⟩
  · exact Or.inl ⟨hv, (same_list cs ds).mp q⟩
  · exact Or.inr ⟨hv, fun e => q ((same_list cs ds).mpr e)⟩
end StrChars.Road
end Jvm.Pilot.@@N@@
set_option maxRecDepth 65536
set_option maxHeartbeats 40000000
namespace Jvm.Pilot.@@N@@
open Jvm Jvm.ClassFile Sem Op Lib Jvm.Free Jvm.Stand Jvm.LawKit Jvm.RoadKit Bundle Jvm.Pilot.@@N@@.Jvm.D
section OwnKit
variable {p : Program} {l : Launch} {e : Env} {R : Room} {s : State} {m : MethodId} {args : Array Value} {below : List Frame} {meth : Method} {c : Code} {T : State} {locs : List Loc} {cells slots : Nat}
abbrev vI (x : Int32) : Slot := .val (.int x)
abbrev vR (x : Addr) : Slot := .val (.ref x)
abbrev vN : Slot := .val .null
abbrev uS : Slot := .unset
def own_Goes (p : Program) (e : Env) (below : List Frame) (U : State) (Q : Outcome → State → Prop) : Prop := ∃ (t : State) (o : Outcome), Steps p.tables e below U t ∧ t.status = .running ∧ Ended t below o ∧ Q o t
theorem gg {U U' : State} {Q : Outcome → State → Prop} (k : ∀ t, Steps p.tables e below U' t → Steps p.tables e below U t) (h : own_Goes p e below U' Q) : own_Goes p e below U Q := by
  obtain ⟨t, o, h1, h2⟩ := h
  exact ⟨t, o, k t h1, h2⟩
theorem own_goS {U U' : State} {Q : Outcome → State → Prop} (k : Steps p.tables e below U U') (h : own_Goes p e below U' Q) : own_Goes p e below U Q := gg (fun t h => k.trans h) h
theorem own_cast {g g' : JFrame} {Q : Outcome → State → Prop} (q : g = g') (h : own_Goes p e below (T.setTop g') Q) : own_Goes p e below (T.setTop g) Q := q ▸ h
def own_PostN (s : State) (Qc : Option Value → Heap → List Loc → Prop) (k n : Nat) : Outcome → State → Prop := fun o t => ∃ v L, o = .returned v ∧ Qc v t.heap L ∧ FrameEnd s o t L k n
def own_PostW (s : State) (Qc : Option Value → Heap → List Loc → Prop) (k n : Nat) : Outcome → State → Prop := fun o t => ∃ v L, o = .returned v ∧ Qc v t.heap L ∧ ReturnedEndW s o t L k n
theorem own_endN (X : Stand p l e R s m args below meth c T locs cells slots) {v : Option Value} (hv : meth.sig.returnType = none → v = none) (hlocks : meth.locks = false) {Qc : Option Value → Heap → List Loc → Prop} {k n : Nat} (hk : cells ≤ k) (hn : slots ≤ n) (hQ : Qc v T.heap locs) {U : State}
    (st : ∀ fs, (∀ (f : JFrame) (acts : List Action), f.method = m → f.locked = none → f.entered = [] → (doReturn e (T.setTop f) acts v).1 = T.setFrames fs) → Steps p.tables e below U (T.setFrames fs)) : own_Goes p e below U (own_PostN s Qc k n) := by
  obtain ⟨fs, hr, hrun, hended, hW, hsame⟩ := X.leave hv hlocks
  exact ⟨_, _, st fs hr, hrun, hended, _, _, rfl, hQ, ⟨_, rfl⟩, hW, hsame.mono hk hn⟩
theorem own_endW {vm0 : Vm} (X : Stand p l e R (s.setVm vm0) m args below meth c T locs cells slots) {q : Nat} (hS : s.Since vm0 q) (hq : q ≤ T.heap.size) {v : Option Value} (hv : meth.sig.returnType = none → v = none) (hlocks : meth.locks = false) {Qc : Option Value → Heap → List Loc → Prop} {k n : Nat} (hk : cells ≤ k) (hn : slots ≤ n) (hQ : Qc v T.heap locs) {U : State}
    (st : ∀ fs, (∀ (f : JFrame) (acts : List Action), f.method = m → f.locked = none → f.entered = [] → (doReturn e (T.setTop f) acts v).1 = T.setFrames fs) → Steps p.tables e below U (T.setFrames fs)) : own_Goes p e below U (own_PostW s Qc k n) := by
  obtain ⟨fs, hr, hrun, hended, h1, h2, h3, h4⟩ := X.leaveW hS hq hv hlocks
  exact ⟨_, _, st fs hr, hrun, hended, _, _, rfl, hQ, h1, h2, h3, h4.mono hk hn⟩
def own_PostH (Z : State) (EL : List (String × Nat)) (s : State) (Qc : Option Value → Heap → List Loc → Prop) (k n : Nat) : Outcome → State → Prop := fun o t => ∃ v L, o = .returned v ∧ Qc v t.heap L ∧ CHr Z EL s.vm s.heap t.vm t.heap ∧ ReturnedEndW s o t L k n
theorem own_endH {Z : State} {a0 : Array Value} {EL : List (String × Nat)} {h0 h : Heap} {vm0 : Vm} (X : Stand p l e R (s.setVm vm0) m args below meth c T locs cells slots) {q : Nat} (hS : s.Since vm0 q) (hq : q ≤ T.heap.size) (eT : T.heap = h) (hh : s.heap = h0) (CR : CHr Z EL s.vm h0 vm0 h) (hZ : Z.Warmed39 vm0) (w : EW Z a0 EL) {v : Option Value} (hv : meth.sig.returnType = none → v = none) (hlocks : meth.locks = false) {Qc : Option Value → Heap → List Loc → Prop} {k n : Nat} (hk : cells ≤ k) (hn : slots ≤ n) (hQ : Qc v T.heap locs) {U : State}
    (st : ∀ fs, (∀ (f : JFrame) (acts : List Action), f.method = m → f.locked = none → f.entered = [] → (doReturn e (T.setTop f) acts v).1 = T.setFrames fs) → Steps p.tables e below U (T.setFrames fs)) : own_Goes p e below U (own_PostH Z EL s Qc k n) := by
  obtain ⟨fs, hr, hrun, hended, h1, h2, h3, h4⟩ := X.leaveW hS hq hv hlocks
  subst eT hh
  exact ⟨_, _, st fs hr, hrun, hended, _, _, rfl, hQ, (CHr.trans CR (CHv.at X hZ w CR.1) : CHr Z EL s.vm s.heap T.vm T.heap), h1, h2, h3, h4.mono hk hn⟩
theorem own_neor {x a b : Nat} (h : x ≠ a ∧ x ≠ b) : (x < a ∨ a < x) ∧ (x < b ∨ b < x) := ⟨Nat.lt_or_gt_of_ne h.1, Nat.lt_or_gt_of_ne h.2⟩
theorem own_safeNull {Z : State} {EL : List (String × Nat)} {vm : Vm} {h : Heap} {x : Addr} (hal : Z.vm.Alike vm) (E : Exa Z h x "java/lang/String") (F : Fld Z h x "java/lang/String" "value" "[B" .null) : Safe Z EL vm h x := fun B => by
  obtain ⟨pp, -, u, a, -, q, -, FF, rfl | rfl⟩ := B
  · have ha := FF.ha
    obtain ⟨cS, ⟨⟨-, -, -, ⟨c1, k1, i1, f1, -⟩, -, -, -, v1, -⟩, -⟩, -⟩ := FF
    obtain ⟨cell, cf, k, i, f, h1, h2, -, -, -, -, h7⟩ := F
    cases (show h[q.sa]? = some q.sC from ha).symm.trans h1
    obtain ⟨k3, e3, -⟩ := State.fieldFound?_setVm (s := Z) hal h2
    have e4 := (show (Wst Z vm h).fieldFound? "java/lang/String" "value" "[B" = _ from e3).symm.trans f1
    simp only [Option.some.injEq, Prod.mk.injEq] at e4
    rw [← e4.2.2.2, h7] at v1
    cases v1
  · have hd := FF.hd
    obtain ⟨cS, ⟨⟨-, -, -, -, -, -, -, -, -, -, ⟨-, kB, hkB, compB, hkindB⟩, -⟩, -, -⟩, ⟨kS, g1, g2, -⟩, hB, -⟩ := FF
    obtain ⟨cell, k, e1, e2, e3, -, -⟩ := E
    cases (show h[q.sd]? = some q.SA from hd).symm.trans e1
    have e2' : vm.findClass "java/lang/String" = some q.SA.cls := by rw [hal.findClass]; exact e2
    obtain ⟨ka, qa, na⟩ := Vm.findClass_spec e2'
    obtain ⟨kb, qb, nb⟩ := Vm.findClass_spec (show vm.findClass "[B" = some q.SA.cls from hB)
    cases qa.symm.trans qb
    exact absurd (na.symm.trans nb) (by decide)
theorem own_mvM {Z s : State} {a0 args : Array Value} {own host : String} {y : MethodName} {index : Nat} (hZ : Z.Warmed39 s.vm) (w : (Cond.methodLinkNest own index y host).before a0 Z = true) : (Cond.methodLinkNest own index y host).before args s = true := (Cond.methodLinkNest_wide hZ w :)
theorem own_nf {args : Array Value} {s : State} {C : String} {w z y : MethodName} (hsel : (Cond.selects C w z).before args s = true) (hc : z.cls = y.cls) : NotFace s y := fun r0 h0 => by
  obtain ⟨c2, r2, m2, q1, q2, q3, q4, kP, hkP, hkPi⟩ := Cond.selects_spec hsel
  have e1 := findClass_of_methodNamed h0
  have e2 := findClass_of_methodNamed q3
  rw [hc, e1] at e2
  have e3 := Option.some.inj e2
  exact ⟨kP, by rw [e3]; exact hkP, hkPi⟩
theorem own_ne {a b : Nat} (h : a < b ∨ b < a) : a ≠ b := by omega
theorem own_NSroot {Z : State} {a0 : Array Value} {O K : String} {n : Nat} (w : (Cond.noSuperclass O).before a0 Z = true) (wk : (Cond.instantiable K n).before a0 Z = true) (hn : O ≠ K) : NS Z O K := by
  obtain ⟨c, k, h1, h2, h3, -, -⟩ := Cond.noSuperclass_spec w
  obtain ⟨t, kt, g1, -⟩ := Cond.instantiable_spec wk
  have ne := ids_ne h1 g1 hn
  refine ⟨c, t, h1, g1, fun fuel => ?_⟩
  cases fuel with
  | zero => rfl
  | succ f => simp [Vm.isSubclassAux, ne, h2, h3]
theorem own_NSno {Z : State} {a0 : Array Value} {C S K : String} {m : Nat} (w : (Cond.superclass C S).before a0 Z = true) (wk : (Cond.instantiable K m).before a0 Z = true) (n : NS Z C K) (hn : C ≠ K) : ∃ c t, Z.vm.findClass C = some c ∧ Z.vm.findClass K = some t ∧ Z.vm.assignable c t = false := by
  obtain ⟨c, t, h0, g0, n3⟩ := n
  obtain ⟨p, k, kp, h1, h2, h3, h4, h5, -, h7⟩ := Cond.superclass_spec h0 w
  obtain ⟨t', k', g1, g2, g5, g7, -⟩ := Cond.instantiable_spec wk
  cases g0.symm.trans g1
  have g8 : k'.isInterface = false := (Bool.or_eq_false_iff.mp g7).1
  have ne := ids_ne h0 g0 hn
  refine ⟨c, t, h0, g0, ?_⟩
  show Z.vm.assignableAux (255 + 1) c t = false
  simp [Vm.assignableAux, ne, h2, g2, h5, g5, g8, Vm.isSubclass, n3]
theorem own_fitsR {v : Value} {t : FieldType} (h : v.isRef = true) (ht : t.isReference = true) : fits t v = true := by
  cases v <;> cases t <;> simp_all [Value.isRef, fits, FieldType.isReference]
theorem own_narR {v : Value} {t : FieldType} (h : v.isRef = true) (ht : t.isReference = true) : narrow t v = v := by
  cases v <;> cases t <;> simp_all [Value.isRef, narrow, FieldType.isReference]
end OwnKit
theorem nE (a b : Nat) (h : a < b ∨ b < a) : a ≠ b := own_ne h
abbrev B30 : ByteArray := jdk_52_method_3_code
abbrev B29 : ByteArray := jdk_52_method_2_code
abbrev B31 : ByteArray := jdk_52_method_4_code
abbrev B32 : ByteArray := jdk_52_method_5_code
abbrev B28 : ByteArray := jdk_52_method_14_code
abbrev B6 : ByteArray := jdk_52_method_21_code
abbrev B5 : ByteArray := jdk_52_method_16_code
abbrev B7 : ByteArray := jdk_52_method_15_code
abbrev B3 : ByteArray := jdk_42_method_149_code
abbrev B2 : ByteArray := jdk_42_method_3_code
abbrev B12 : ByteArray := jdk_42_method_152_code
abbrev B11 : ByteArray := jdk_42_method_54_code
abbrev B14 : ByteArray := jdk_42_method_154_code
abbrev B17 : ByteArray := jdk_41_method_11_code
abbrev B16 : ByteArray := jdk_42_method_155_code
abbrev B35 : ByteArray := jdk_52_method_6_code
abbrev B34 : ByteArray := jdk_52_method_91_code
abbrev B33 : ByteArray := jdk_52_method_83_code
abbrev B15 : ByteArray := jdk_43_method_2_code
abbrev B13 : ByteArray := jdk_42_method_56_code
abbrev B18 : ByteArray := jdk_89_method_16_code
abbrev B36 : ByteArray := jdk_89_method_14_code
abbrev B37 : ByteArray := jdk_89_method_15_code
abbrev B1 : ByteArray := method_2_code
abbrev B10 : ByteArray := jdk_31_method_11_code
abbrev B9 : ByteArray := prog_16_method_2_code
abbrev B19 : ByteArray := prog_13_method_1_code
abbrev B8 : ByteArray := prog_13_method_2_code
abbrev B27 : ByteArray := prog_13_method_3_code
abbrev B20 : ByteArray := prog_13_method_4_code
abbrev B21 : ByteArray := prog_13_method_5_code
abbrev B23 : ByteArray := prog_13_method_6_code
abbrev B24 : ByteArray := prog_13_method_7_code
abbrev B22 : ByteArray := jdk_42_method_66_code
abbrev B26 : ByteArray := prog_13_method_8_code
theorem own_sta {s : State} {args : Array Value} {C n d K : String} (h : (Cond.exactly (Term.static C n d) K).value args s none s [] = some true) (w1 : (Cond.initialized C).before args s = true) (w2 : (Cond.laysStatic C n d).before args s = true) : ∃ w, Sta s s.heap C n d (.ref w) ∧ Exa s s.heap w K := by
  obtain ⟨w, ev⟩ := exa_v h
  exact ⟨w, Sta.start ev (Or.inr ⟨w1, w2⟩), Exa.start ev h⟩
theorem wh {Z : State} {a0 : Array Value} (hw : ∀ d ∈ tables_1, d.before a0 Z = true) (i : Nat) {d : Jvm.Cond} (q : tables_1[i]? = some d) : d.before a0 Z = true := hw _ (List.mem_of_getElem? q)
abbrev own_Met (l : Launch) (Z : State) (y : MethodName) (bts : ByteArray) (ml : Nat) (RT : Option FieldType) (ws : List Jvm.Cond) (ROOM : Room) (A : Array Value) (h0 : Heap) (Q : Option Value → Heap → List Loc → Prop) : Prop := MetFree l y (head1 (Jvm.Cond.code y bts ml RT :: ws) ROOM) (fun as_ U_ => as_ = A ∧ Z.Warmed39 U_.vm ∧ U_.heap = h0) (fun _ _ _ _ _ => True) (fun _ U_ o_ U2_ => ∃ v_ L_, o_ = .returned v_ ∧ Q v_ U2_.heap L_ ∧ FrameEnd U_ o_ U2_ L_ ROOM.cells ROOM.slots)
theorem own_mk {l : Launch} {Z : State} {y : MethodName} {bts : ByteArray} {ml : Nat} {RT : Option FieldType} {ws : List Jvm.Cond} {ROOM : Room} {A : Array Value} {h0 : Heap} {n0 : Nat} {Q : Option Value → Heap → List Loc → Prop} (pl : plainFor y = true) (O0 : Old Z n0 h0)
    (H : ∀ (p : Program) (e : Env) (s : State) (m : MethodId) (below : List Frame) (meth : Method) (c : Code) (s₁ : State), p.tables.exec = Jvm.exec → c.code = bts → c.maxLocals = ml → Z.Warmed39 s.vm → s.vm.findClass y.cls = some m.cls → meth.name = y.name → meth.locks = false → meth.sig.returnType = RT → Stand p l e ROOM s m A below meth c s₁ [] 0 0 → s₁.heap = h0 → Fr n0 [] → Z.heap.size = n0 → n0 ≤ h0.size → own_Goes p e below (s₁.setTop (entryFrame m A ml)) (own_PostN s Q ROOM.cells ROOM.slots)) : own_Met l Z y bts ml RT ws ROOM A h0 Q := by
  refine MetFree.of_bodySF pl hisR ?_
  intro p e s m args below meth c s₁ Bd hml0 hP hK
  obtain ⟨rfl, hZ, hh⟩ := hP
  exact H p e s m below meth c s₁ Bd.exec Bd.bytes hml0 hZ (findClass_of_methodNamed Bd.named) (name_of_methodNamed Bd.named Bd.method).1 Bd.notSynchronized Bd.returns (Stand.of_body Bd) (by rw [← hh, Bd.state]; rfl) (Fr.nil n0) O0.1 (O0.1 ▸ O0.2.1)
section OwnKit2
variable {p : Program} {l : Launch} {e : Env} {R : Room} {s : State} {m : MethodId} {args : Array Value} {below : List Frame} {meth : Method} {c : Code} {T : State} {locs : List Loc} {cells slots : Nat}
theorem own_cI {Z : State} {a0 : Array Value} {h : Heap} {own : String} {index : Nat} {count : Nat} {C : String} {xi y : MethodName} (X : Stand p l e R s m args below meth c T locs cells slots) (hx : p.tables.exec = Jvm.exec) (hZ : Z.Warmed39 s.vm) (hown : s.vm.findClass own = some m.cls)
    (w1 : (Cond.methodLink own index xi).before a0 Z = true) (w2 : (Cond.declares xi).before a0 Z = true) (w3 : (Cond.interfaceMethod xi.cls xi.cls xi.name xi.desc).before a0 Z = true) (w4 : (Cond.selects C xi y).before a0 Z = true) (w5 : (Cond.instanceMethod y).before a0 Z = true) (w6 : (Cond.publicMethod y).before a0 Z = true) (w7 : (Cond.unhidden C xi.name xi.desc).before a0 Z = true) (w8 : (Cond.castable C xi.cls).before a0 Z = true) (hxi : xi.cls ≠ "java/lang/invoke/MethodHandle" ∧ xi.cls ≠ "java/lang/invoke/VarHandle") {bts : ByteArray} {maxL W ml : Nat} {ret : Option FieldType} {rm : Room} {as' : Array Value} {Q : Option Value → Heap → List Loc → Prop} (M : own_Met l Z y bts maxL ret [] rm as' h Q) (wc : (Cond.code y bts maxL ret).before a0 Z = true) (wz : (Cond.initialized (MethodName.cls y)).before a0 Z = true) (hf : rm.frames + 1 ≤ R.frames) (hl : W + (maxL + 11) + rm.locals ≤ R.locals) (eT : T.heap = h) {b : Addr} (E : Exa Z h b C) {g : JFrame} (hg : g.method = m) (hml : c.maxLocals = ml) (hsz : g.locals.size = ml) {argsL rest : List Value} {ps : List FieldType} {r : Option FieldType} (hd : parseMethodDescriptor (MethodName.desc xi) = some ⟨ps, r⟩) (hl2 : argsL.length = ps.length) (hstack : g.stack = argsL.reverse ++ .ref b :: rest) (hmr : g.monitorRoom = 0) (hW : (rest.map fun v => v.category).sum = W) (hdg : decode c.code g.pc = .ok (.invokeinterface index count, 5)) (ha : (.ref b :: argsL).toArray = as') (hc : cells + rm.cells ≤ R.cells) (hs : slots + rm.slots ≤ R.slots) :
    ∃ v T' L', Stand p l e R s m args below meth c T' (locs ++ L') (cells + rm.cells) (slots + rm.slots) ∧ Q v T'.heap L' ∧ ∀ P, own_Goes p e below (T'.setTop { g with pc := g.pc + 5, stack := v.toList ++ rest }) P → own_Goes p e below (T.setTop g) P := by
  obtain ⟨cB, kB, qa, qb, qc⟩ := isOf hZ eT E
  obtain ⟨v, _, ⟨T', L', k', n'⟩, -, X', ⟨Lc, hQ, l', y', z'⟩, st⟩ := X.interfaceBack hx hown (mvT hZ w1) (mvT hZ w2) (mvT hZ w3 (by simp [Cond.onTables, Cond.keepsFace, Cond.keeps, Cond.steady, Cond.faceAtom, hxi.1, hxi.2])) (mvT hZ w4) (mvT hZ w5) (mvT hZ w6) (mvT hZ w7) (mvT hZ w8) hxi (backOf (W := W) M hZ wc wz hf hl) qa qb qc hg (by rw [hml]; exact hsz) (Steps.refl _) (argsL := argsL) (rest := rest) (lenOf hd hl2) hstack (by rw [hmr, hW]; omega) hdg (fun _ _ => ⟨ha, eT, hc, hs⟩)
  dsimp only [Pt.U, Pt.locs, Pt.cells, Pt.slots] at X' l' y' z' st hQ
  subst l' y' z'
  exact ⟨v, T', Lc, X', hQ, fun _ h => own_goS st h⟩
theorem own_cV {Z : State} {a0 : Array Value} {h : Heap} {own : String} {index : Nat} {C : String} {y : MethodName} (X : Stand p l e R s m args below meth c T locs cells slots) (hx : p.tables.exec = Jvm.exec) (hZ : Z.Warmed39 s.vm) (hown : s.vm.findClass own = some m.cls)
    (w1 : (Cond.methodLink own index y).before a0 Z = true) (w2 : (Cond.declares y).before a0 Z = true) (w4 : (Cond.selects C y y).before a0 Z = true) (w5 : (Cond.instanceMethod y).before a0 Z = true) (hxi : y.cls ≠ "java/lang/invoke/MethodHandle" ∧ y.cls ≠ "java/lang/invoke/VarHandle") {bts : ByteArray} {maxL W ml : Nat} {ret : Option FieldType} {rm : Room} {as' : Array Value} {Q : Option Value → Heap → List Loc → Prop} (M : own_Met l Z y bts maxL ret [] rm as' h Q) (wc : (Cond.code y bts maxL ret).before a0 Z = true) (wz : (Cond.initialized (MethodName.cls y)).before a0 Z = true) (hf : rm.frames + 1 ≤ R.frames) (hl : W + (maxL + 11) + rm.locals ≤ R.locals) (eT : T.heap = h) {b : Addr} (E : Exa Z h b C) {g : JFrame} (hg : g.method = m) (hml : c.maxLocals = ml) (hsz : g.locals.size = ml) {argsL rest : List Value} {ps : List FieldType} {r : Option FieldType} (hd : parseMethodDescriptor (MethodName.desc y) = some ⟨ps, r⟩) (hl2 : argsL.length = ps.length) (hstack : g.stack = argsL.reverse ++ .ref b :: rest) (hmr : g.monitorRoom = 0) (hW : (rest.map fun v => v.category).sum = W) (hdg : decode c.code g.pc = .ok (.invokevirtual index, 3)) (ha : (.ref b :: argsL).toArray = as') (hc : cells + rm.cells ≤ R.cells) (hs : slots + rm.slots ≤ R.slots) :
    ∃ v T' L', Stand p l e R s m args below meth c T' (locs ++ L') (cells + rm.cells) (slots + rm.slots) ∧ Q v T'.heap L' ∧ ∀ P, own_Goes p e below (T'.setTop { g with pc := g.pc + 3, stack := v.toList ++ rest }) P → own_Goes p e below (T.setTop g) P := by
  obtain ⟨cB, kB, qa, qb, qc⟩ := isOf hZ eT E
  obtain ⟨v, _, ⟨T', L', k', n'⟩, -, X', ⟨Lc, hQ, l', y', z'⟩, st⟩ := X.virtualBack hx hown (mvT hZ w1) (mvT hZ w2) (notFace_of_selects (args := #[]) (mvT hZ w4)) (mvT hZ w4) (mvT hZ w5) hxi (backOf (W := W) M hZ wc wz hf hl) qa qc hg (by rw [hml]; exact hsz) (Steps.refl _) (argsL := argsL) (rest := rest) (lenOf hd hl2) hstack (by rw [hmr, hW]; omega) hdg (fun _ _ => ⟨ha, eT, hc, hs⟩)
  dsimp only [Pt.U, Pt.locs, Pt.cells, Pt.slots] at X' l' y' z' st hQ
  subst l' y' z'
  exact ⟨v, T', Lc, X', hQ, fun _ h => own_goS st h⟩
theorem own_cVn {Z : State} {a0 : Array Value} {h : Heap} {own : String} {index : Nat} {C C2 : String} {y z w2_ z2 : MethodName} (X : Stand p l e R s m args below meth c T locs cells slots) (hx : p.tables.exec = Jvm.exec) (hZ : Z.Warmed39 s.vm) (hown : s.vm.findClass own = some m.cls)
    (w1 : (Cond.methodLink own index y).before a0 Z = true) (w2 : (Cond.declares y).before a0 Z = true) (w3 : (Cond.selects C2 w2_ z2).before a0 Z = true) (w3c : z2.cls = y.cls) (w4 : (Cond.selects C y z).before a0 Z = true) (w5 : (Cond.instanceMethod z).before a0 Z = true) (hxi : y.cls ≠ "java/lang/invoke/MethodHandle" ∧ y.cls ≠ "java/lang/invoke/VarHandle") {bts : ByteArray} {maxL W ml : Nat} {ret : Option FieldType} {rm : Room} {as' : Array Value} {Q : Option Value → Heap → List Loc → Prop} (M : own_Met l Z z bts maxL ret [] rm as' h Q) (wc : (Cond.code z bts maxL ret).before a0 Z = true) (wz : (Cond.initialized (MethodName.cls z)).before a0 Z = true) (hf : rm.frames + 1 ≤ R.frames) (hl : W + (maxL + 11) + rm.locals ≤ R.locals) (eT : T.heap = h) {b : Addr} (E : Exa Z h b C) {g : JFrame} (hg : g.method = m) (hml : c.maxLocals = ml) (hsz : g.locals.size = ml) {argsL rest : List Value} {ps : List FieldType} {r : Option FieldType} (hd : parseMethodDescriptor (MethodName.desc y) = some ⟨ps, r⟩) (hl2 : argsL.length = ps.length) (hstack : g.stack = argsL.reverse ++ .ref b :: rest) (hmr : g.monitorRoom = 0) (hW : (rest.map fun v => v.category).sum = W) (hdg : decode c.code g.pc = .ok (.invokevirtual index, 3)) (ha : (.ref b :: argsL).toArray = as') (hc : cells + rm.cells ≤ R.cells) (hs : slots + rm.slots ≤ R.slots) :
    ∃ v T' L', Stand p l e R s m args below meth c T' (locs ++ L') (cells + rm.cells) (slots + rm.slots) ∧ Q v T'.heap L' ∧ ∀ P, own_Goes p e below (T'.setTop { g with pc := g.pc + 3, stack := v.toList ++ rest }) P → own_Goes p e below (T.setTop g) P := by
  obtain ⟨cB, kB, qa, qb, qc⟩ := isOf hZ eT E
  obtain ⟨v, _, ⟨T', L', k', n'⟩, -, X', ⟨Lc, hQ, l', y', z'⟩, st⟩ := X.virtualBack hx hown (mvT hZ w1) (mvT hZ w2) (own_nf (args := #[]) (mvT hZ w3) w3c) (mvT hZ w4) (mvT hZ w5) hxi (backOf (W := W) M hZ wc wz hf hl) qa qc hg (by rw [hml]; exact hsz) (Steps.refl _) (argsL := argsL) (rest := rest) (lenOf hd hl2) hstack (by rw [hmr, hW]; omega) hdg (fun _ _ => ⟨ha, eT, hc, hs⟩)
  dsimp only [Pt.U, Pt.locs, Pt.cells, Pt.slots] at X' l' y' z' st hQ
  subst l' y' z'
  exact ⟨v, T', Lc, X', hQ, fun _ h => own_goS st h⟩
theorem own_cVU {Z : State} {a0 : Array Value} {h : Heap} {own : String} {index : Nat} {C owner : String} {y z : MethodName} (X : Stand p l e R s m args below meth c T locs cells slots) (hx : p.tables.exec = Jvm.exec) (hZ : Z.Warmed39 s.vm) (hown : s.vm.findClass own = some m.cls)
    (w1 : (Cond.methodLink own index y).before a0 Z = true) (w2 : (Cond.sameMethod y.cls owner y.name y.desc).before a0 Z = true) (w3 : (Cond.declares ⟨owner, y.name, y.desc⟩).before a0 Z = true) (w4 : (Cond.selects C y z).before a0 Z = true) (w5 : (Cond.instanceMethod z).before a0 Z = true) (hxi : owner ≠ "java/lang/invoke/MethodHandle" ∧ owner ≠ "java/lang/invoke/VarHandle") {bts : ByteArray} {maxL W ml : Nat} {ret : Option FieldType} {rm : Room} {as' : Array Value} {Q : Option Value → Heap → List Loc → Prop} (M : own_Met l Z z bts maxL ret [] rm as' h Q) (wc : (Cond.code z bts maxL ret).before a0 Z = true) (wz : (Cond.initialized (MethodName.cls z)).before a0 Z = true) (hf : rm.frames + 1 ≤ R.frames) (hl : W + (maxL + 11) + rm.locals ≤ R.locals) (eT : T.heap = h) {b : Addr} (E : Exa Z h b C) {g : JFrame} (hg : g.method = m) (hml : c.maxLocals = ml) (hsz : g.locals.size = ml) {argsL rest : List Value} {ps : List FieldType} {r : Option FieldType} (hd : parseMethodDescriptor (MethodName.desc y) = some ⟨ps, r⟩) (hl2 : argsL.length = ps.length) (hstack : g.stack = argsL.reverse ++ .ref b :: rest) (hmr : g.monitorRoom = 0) (hW : (rest.map fun v => v.category).sum = W) (hdg : decode c.code g.pc = .ok (.invokevirtual index, 3)) (ha : (.ref b :: argsL).toArray = as') (hc : cells + rm.cells ≤ R.cells) (hs : slots + rm.slots ≤ R.slots) :
    ∃ v T' L', Stand p l e R s m args below meth c T' (locs ++ L') (cells + rm.cells) (slots + rm.slots) ∧ Q v T'.heap L' ∧ ∀ P, own_Goes p e below (T'.setTop { g with pc := g.pc + 3, stack := v.toList ++ rest }) P → own_Goes p e below (T.setTop g) P := by
  obtain ⟨cB, kB, qa, qb, qc⟩ := isOf hZ eT E
  obtain ⟨v, _, ⟨T', L', k', n'⟩, -, X', ⟨Lc, hQ, l', y', z'⟩, st⟩ := X.virtualBackUp hx hown (mvT hZ w1) (mvT hZ w2) (mvT hZ w3) hxi (mvT hZ w4) (mvT hZ w5) (backOf (W := W) M hZ wc wz hf hl) qa qc hg (by rw [hml]; exact hsz) (Steps.refl _) (argsL := argsL) (rest := rest) (lenOf hd hl2) hstack (by rw [hmr, hW]; omega) hdg (fun _ _ => ⟨ha, eT, hc, hs⟩)
  dsimp only [Pt.U, Pt.locs, Pt.cells, Pt.slots] at X' l' y' z' st hQ
  subst l' y' z'
  exact ⟨v, T', Lc, X', hQ, fun _ h => own_goS st h⟩
theorem own_cN {Z : State} {a0 : Array Value} {h : Heap} {own : String} {index : Nat} {y : MethodName} (X : Stand p l e R s m args below meth c T locs cells slots) (hx : p.tables.exec = Jvm.exec) (hZ : Z.Warmed39 s.vm) (hown : s.vm.findClass own = some m.cls)
    (w1 : (Cond.methodLink own index y).before a0 Z = true) (w5 : (Cond.instanceMethod y).before a0 Z = true) (hy1 : y.name = "<init>") (hxi : y.cls ≠ "java/lang/invoke/MethodHandle" ∧ y.cls ≠ "java/lang/invoke/VarHandle") {bts : ByteArray} {maxL W ml : Nat} {rm : Room} {as' : Array Value} {Q : Option Value → Heap → List Loc → Prop} (M : own_Met l Z y bts maxL none [] rm as' h Q) (wc : (Cond.code y bts maxL none).before a0 Z = true) (wz : (Cond.initialized (MethodName.cls y)).before a0 Z = true) (hf : rm.frames + 1 ≤ R.frames) (hl : W + (maxL + 11) + rm.locals ≤ R.locals) (eT : T.heap = h) {b : Addr} {g : JFrame} (hg : g.method = m) (hml : c.maxLocals = ml) (hsz : g.locals.size = ml) {argsL rest : List Value} {ps : List FieldType} {r : Option FieldType} (hd : parseMethodDescriptor (MethodName.desc y) = some ⟨ps, r⟩) (hl2 : argsL.length = ps.length) (hstack : g.stack = argsL.reverse ++ .ref b :: rest) (hmr : g.monitorRoom = 0) (hW : (rest.map fun v => v.category).sum = W) (hdg : decode c.code g.pc = .ok (.invokespecial index, 3)) (ha : (.ref b :: argsL).toArray = as') (hc : cells + rm.cells ≤ R.cells) (hs : slots + rm.slots ≤ R.slots) :
    ∃ v T' L', Stand p l e R s m args below meth c T' (locs ++ L') (cells + rm.cells) (slots + rm.slots) ∧ Q v T'.heap L' ∧ ∀ P, own_Goes p e below (T'.setTop { g with pc := g.pc + 3, stack := v.toList ++ rest }) P → own_Goes p e below (T.setTop g) P := by
  obtain ⟨v, _, ⟨T', L', k', n'⟩, -, X', ⟨Lc, hQ, l', y', z'⟩, st⟩ := X.specialBack hx hy1 hown (mvT hZ w1) (mvT hZ w5) (mvT hZ wc) hxi (backOf (W := W) M hZ wc wz hf hl) hg (by rw [hml]; exact hsz) (Steps.refl _) (a := b) (argsL := argsL) (rest := rest) (lenOf hd hl2) hstack (by rw [hmr, hW]; omega) hdg (fun _ _ => ⟨ha, eT, hc, hs⟩)
  dsimp only [Pt.U, Pt.locs, Pt.cells, Pt.slots] at X' l' y' z' st hQ
  subst l' y' z'
  exact ⟨v, T', Lc, X', hQ, fun _ h => own_goS st h⟩
theorem own_cS {Z : State} {a0 : Array Value} {h : Heap} {own : String} {index : Nat} {y : MethodName} (X : Stand p l e R s m args below meth c T locs cells slots) (hx : p.tables.exec = Jvm.exec) (hZ : Z.Warmed39 s.vm) (hown : s.vm.findClass own = some m.cls)
    (w1 : (Cond.methodLink own index y).before a0 Z = true) (w5 : (Cond.static y).before a0 Z = true) (hxi : y.cls ≠ "java/lang/invoke/MethodHandle" ∧ y.cls ≠ "java/lang/invoke/VarHandle") {bts : ByteArray} {maxL W ml : Nat} {ret : Option FieldType} {rm : Room} {as' : Array Value} {Q : Option Value → Heap → List Loc → Prop} (M : own_Met l Z y bts maxL ret [] rm as' h Q) (wc : (Cond.code y bts maxL ret).before a0 Z = true) (wz : (Cond.initialized (MethodName.cls y)).before a0 Z = true) (hf : rm.frames + 1 ≤ R.frames) (hl : W + (maxL + 11) + rm.locals ≤ R.locals) (eT : T.heap = h) {g : JFrame} (hg : g.method = m) (hml : c.maxLocals = ml) (hsz : g.locals.size = ml) {argsL rest : List Value} {ps : List FieldType} {r : Option FieldType} (hd : parseMethodDescriptor (MethodName.desc y) = some ⟨ps, r⟩) (hl2 : argsL.length = ps.length) (hstack : g.stack = argsL.reverse ++ rest) (hmr : g.monitorRoom = 0) (hW : (rest.map fun v => v.category).sum = W) (hdg : decode c.code g.pc = .ok (.invokestatic index, 3)) (ha : argsL.toArray = as') (hc : cells + rm.cells ≤ R.cells) (hs : slots + rm.slots ≤ R.slots) :
    ∃ v T' L', Stand p l e R s m args below meth c T' (locs ++ L') (cells + rm.cells) (slots + rm.slots) ∧ Q v T'.heap L' ∧ ∀ P, own_Goes p e below (T'.setTop { g with pc := g.pc + 3, stack := v.toList ++ rest }) P → own_Goes p e below (T.setTop g) P := by
  obtain ⟨v, _, ⟨T', L', k', n'⟩, -, X', ⟨Lc, hQ, l', y', z'⟩, st⟩ := Jvm.LawKit.callS X hx hown (mvT hZ w1) (mvT hZ w5) (mvT hZ wz) (mvT hZ wc) hxi (backOf (W := W) M hZ wc wz hf hl) hg (by rw [hml]; exact hsz) (argsL := argsL) (rest := rest) (lenOf hd hl2) hstack (by rw [hmr, hW]; omega) hdg (fun _ _ => ⟨ha, eT, hc, hs⟩)
  dsimp only [Pt.U, Pt.locs, Pt.cells, Pt.slots] at X' l' y' z' st hQ
  subst l' y' z'
  exact ⟨v, T', Lc, X', hQ, fun _ h => gg st h⟩
theorem q_aloadN {bts : ByteArray} {pc : Nat} {Ls : Array Slot} {P : Outcome → State → Prop} {S : List Value} {k : Fin 4} {v : Value} (X : Stand p l e R s m args below meth c T locs cells slots) (hx : p.tables.exec = Jvm.exec) (hby : c.code = bts) (d : decode bts pc = .ok (.aload_n k, 1)) (h1 : Ls[k.val]? = some (.val v)) (h2 : v.isRef = true) (K : own_Goes p e below (T.setTop (mkF m (pc + 1) Ls (v :: S))) P) : own_Goes p e below (T.setTop (mkF m pc Ls S)) P := gg (fun t k => XS.aloadN X.here hx rfl (hb hby d) h1 h2 k) K
theorem q_aload {bts : ByteArray} {pc : Nat} {Ls : Array Slot} {P : Outcome → State → Prop} {S : List Value} {k : Nat} {v : Value} (X : Stand p l e R s m args below meth c T locs cells slots) (hx : p.tables.exec = Jvm.exec) (hby : c.code = bts) (d : decode bts pc = .ok (.aload k, 2)) (h1 : Ls[k]? = some (.val v)) (h2 : v.isRef = true) (K : own_Goes p e below (T.setTop (mkF m (pc + 2) Ls (v :: S))) P) : own_Goes p e below (T.setTop (mkF m pc Ls S)) P := gg (fun t k => XS.aload X.here hx rfl (hb hby d) h1 h2 k) K
theorem q_iloadN {bts : ByteArray} {pc : Nat} {Ls : Array Slot} {P : Outcome → State → Prop} {S : List Value} {k : Fin 4} {v : Int32} (X : Stand p l e R s m args below meth c T locs cells slots) (hx : p.tables.exec = Jvm.exec) (hby : c.code = bts) (d : decode bts pc = .ok (.iload_n k, 1)) (h1 : Ls[k.val]? = some (vI v)) (K : own_Goes p e below (T.setTop (mkF m (pc + 1) Ls (.int v :: S))) P) : own_Goes p e below (T.setTop (mkF m pc Ls S)) P := gg (fun t k => XS.iloadN X.here hx rfl (hb hby d) h1 k) K
theorem q_iload {bts : ByteArray} {pc : Nat} {Ls : Array Slot} {P : Outcome → State → Prop} {S : List Value} {k : Nat} {v : Int32} (X : Stand p l e R s m args below meth c T locs cells slots) (hx : p.tables.exec = Jvm.exec) (hby : c.code = bts) (d : decode bts pc = .ok (.iload k, 2)) (h1 : Ls[k]? = some (vI v)) (K : own_Goes p e below (T.setTop (mkF m (pc + 2) Ls (.int v :: S))) P) : own_Goes p e below (T.setTop (mkF m pc Ls S)) P := gg (fun t k => XS.iload X.here hx rfl (hb hby d) h1 k) K
theorem q_iconst {bts : ByteArray} {pc : Nat} {Ls : Array Slot} {P : Outcome → State → Prop} {S : List Value} {i : Int} (X : Stand p l e R s m args below meth c T locs cells slots) (hx : p.tables.exec = Jvm.exec) (hby : c.code = bts) (d : decode bts pc = .ok (.iconst i, 1)) (K : own_Goes p e below (T.setTop (mkF m (pc + 1) Ls (.int (Int32.ofInt i) :: S))) P) : own_Goes p e below (T.setTop (mkF m pc Ls S)) P := gg (fun t k => XS.iconst X.here hx rfl (hb hby d) k) K
theorem q_bipush {bts : ByteArray} {pc : Nat} {Ls : Array Slot} {P : Outcome → State → Prop} {S : List Value} {i : Int} (X : Stand p l e R s m args below meth c T locs cells slots) (hx : p.tables.exec = Jvm.exec) (hby : c.code = bts) (d : decode bts pc = .ok (.bipush i, 2)) (K : own_Goes p e below (T.setTop (mkF m (pc + 2) Ls (.int (Int8.ofInt i).toInt32 :: S))) P) : own_Goes p e below (T.setTop (mkF m pc Ls S)) P := gg (fun t k => XS.bipush X.here hx rfl (hb hby d) k) K
theorem q_sipush {bts : ByteArray} {pc : Nat} {Ls : Array Slot} {P : Outcome → State → Prop} {S : List Value} {i : Int} (X : Stand p l e R s m args below meth c T locs cells slots) (hx : p.tables.exec = Jvm.exec) (hby : c.code = bts) (d : decode bts pc = .ok (.sipush i, 3)) (K : own_Goes p e below (T.setTop (mkF m (pc + 3) Ls (.int (Int16.ofInt i).toInt32 :: S))) P) : own_Goes p e below (T.setTop (mkF m pc Ls S)) P := gg (fun t k => XS.sipush X.here hx rfl (hb hby d) k) K
theorem q_aconstNull {bts : ByteArray} {pc : Nat} {Ls : Array Slot} {P : Outcome → State → Prop} {S : List Value}  (X : Stand p l e R s m args below meth c T locs cells slots) (hx : p.tables.exec = Jvm.exec) (hby : c.code = bts) (d : decode bts pc = .ok (.aconst_null, 1)) (K : own_Goes p e below (T.setTop (mkF m (pc + 1) Ls (.null :: S))) P) : own_Goes p e below (T.setTop (mkF m pc Ls S)) P := gg (fun t k => XS.aconstNull X.here hx rfl (hb hby d) k) K
theorem q_iadd {bts : ByteArray} {pc : Nat} {Ls : Array Slot} {P : Outcome → State → Prop} {S : List Value} {x y : Int32} (X : Stand p l e R s m args below meth c T locs cells slots) (hx : p.tables.exec = Jvm.exec) (hby : c.code = bts) (d : decode bts pc = .ok (.iadd, 1)) (K : own_Goes p e below (T.setTop (mkF m (pc + 1) Ls (.int (x + y) :: S))) P) : own_Goes p e below (T.setTop (mkF m pc Ls (.int y :: .int x :: S))) P := gg (fun t k => XS.iadd X.here hx rfl (hb hby d) rfl k) K
theorem q_isub {bts : ByteArray} {pc : Nat} {Ls : Array Slot} {P : Outcome → State → Prop} {S : List Value} {x y : Int32} (X : Stand p l e R s m args below meth c T locs cells slots) (hx : p.tables.exec = Jvm.exec) (hby : c.code = bts) (d : decode bts pc = .ok (.isub, 1)) (K : own_Goes p e below (T.setTop (mkF m (pc + 1) Ls (.int (x - y) :: S))) P) : own_Goes p e below (T.setTop (mkF m pc Ls (.int y :: .int x :: S))) P := gg (fun t k => XS.isub X.here hx rfl (hb hby d) rfl k) K
theorem q_iand {bts : ByteArray} {pc : Nat} {Ls : Array Slot} {P : Outcome → State → Prop} {S : List Value} {x y : Int32} (X : Stand p l e R s m args below meth c T locs cells slots) (hx : p.tables.exec = Jvm.exec) (hby : c.code = bts) (d : decode bts pc = .ok (.iand, 1)) (K : own_Goes p e below (T.setTop (mkF m (pc + 1) Ls (.int (x &&& y) :: S))) P) : own_Goes p e below (T.setTop (mkF m pc Ls (.int y :: .int x :: S))) P := gg (fun t k => XS.iand X.here hx rfl (hb hby d) rfl k) K
theorem q_imul {bts : ByteArray} {pc : Nat} {Ls : Array Slot} {P : Outcome → State → Prop} {S : List Value} {x y : Int32} (X : Stand p l e R s m args below meth c T locs cells slots) (hx : p.tables.exec = Jvm.exec) (hby : c.code = bts) (d : decode bts pc = .ok (.imul, 1)) (K : own_Goes p e below (T.setTop (mkF m (pc + 1) Ls (.int (x * y) :: S))) P) : own_Goes p e below (T.setTop (mkF m pc Ls (.int y :: .int x :: S))) P := gg (fun t k => XS.imul X.here hx rfl (hb hby d) rfl k) K
theorem q_dup {bts : ByteArray} {pc : Nat} {Ls : Array Slot} {P : Outcome → State → Prop} {S : List Value} {x : Value} (X : Stand p l e R s m args below meth c T locs cells slots) (hx : p.tables.exec = Jvm.exec) (hby : c.code = bts) (d : decode bts pc = .ok (.dup, 1)) (h1 : x.category = 1) (K : own_Goes p e below (T.setTop (mkF m (pc + 1) Ls (x :: x :: S))) P) : own_Goes p e below (T.setTop (mkF m pc Ls (x :: S))) P := gg (fun t k => XS.dup X.here hx rfl (hb hby d) rfl h1 k) K
theorem q_istoreN {bts : ByteArray} {pc : Nat} {Ls : Array Slot} {P : Outcome → State → Prop} {S : List Value} {k : Fin 4} {x : Int32} {l' : Array Slot} (X : Stand p l e R s m args below meth c T locs cells slots) (hx : p.tables.exec = Jvm.exec) (hby : c.code = bts) (d : decode bts pc = .ok (.istore_n k, 1)) (h1 : storeLocals Ls k.val (.int x) = some l') (K : own_Goes p e below (T.setTop (mkF m (pc + 1) l' S)) P) : own_Goes p e below (T.setTop (mkF m pc Ls (.int x :: S))) P := gg (fun t k => XS.istoreN X.here hx rfl (hb hby d) rfl h1 k) K
theorem q_istore {bts : ByteArray} {pc : Nat} {Ls : Array Slot} {P : Outcome → State → Prop} {S : List Value} {k : Nat} {x : Int32} {l' : Array Slot} (X : Stand p l e R s m args below meth c T locs cells slots) (hx : p.tables.exec = Jvm.exec) (hby : c.code = bts) (d : decode bts pc = .ok (.istore k, 2)) (h1 : storeLocals Ls k (.int x) = some l') (K : own_Goes p e below (T.setTop (mkF m (pc + 2) l' S)) P) : own_Goes p e below (T.setTop (mkF m pc Ls (.int x :: S))) P := gg (fun t k => XS.istore X.here hx rfl (hb hby d) rfl h1 k) K
theorem q_astoreN {bts : ByteArray} {pc : Nat} {Ls : Array Slot} {P : Outcome → State → Prop} {S : List Value} {k : Fin 4} {x : Value} {l' : Array Slot} (X : Stand p l e R s m args below meth c T locs cells slots) (hx : p.tables.exec = Jvm.exec) (hby : c.code = bts) (d : decode bts pc = .ok (.astore_n k, 1)) (h2 : x.isRef = true) (h1 : storeLocals Ls k.val x = some l') (K : own_Goes p e below (T.setTop (mkF m (pc + 1) l' S)) P) : own_Goes p e below (T.setTop (mkF m pc Ls (x :: S))) P := gg (fun t k => XS.astoreN X.here hx rfl (hb hby d) rfl h2 h1 k) K
theorem q_astore {bts : ByteArray} {pc : Nat} {Ls : Array Slot} {P : Outcome → State → Prop} {S : List Value} {k : Nat} {x : Value} {l' : Array Slot} (X : Stand p l e R s m args below meth c T locs cells slots) (hx : p.tables.exec = Jvm.exec) (hby : c.code = bts) (d : decode bts pc = .ok (.astore k, 2)) (h2 : x.isRef = true) (h1 : storeLocals Ls k x = some l') (K : own_Goes p e below (T.setTop (mkF m (pc + 2) l' S)) P) : own_Goes p e below (T.setTop (mkF m pc Ls (x :: S))) P := gg (fun t k => XS.astore X.here hx rfl (hb hby d) rfl h2 h1 k) K
theorem q_goto {bts : ByteArray} {pc : Nat} {Ls : Array Slot} {P : Outcome → State → Prop} {S : List Value} {o : Int} {pc' : Nat} (X : Stand p l e R s m args below meth c T locs cells slots) (hx : p.tables.exec = Jvm.exec) (hby : c.code = bts) (d : decode bts pc = .ok (.goto o, 3)) (ho : 0 ≤ (pc : Int) + o) (hp : ((pc : Int) + o).toNat = pc') (K : own_Goes p e below (T.setTop (mkF m pc' Ls S)) P) : own_Goes p e below (T.setTop (mkF m pc Ls S)) P := gg (fun t k => XS.goto X.here hx rfl rfl (hb hby d) ho hp k) K
theorem q_ifYes {bts : ByteArray} {pc : Nat} {Ls : Array Slot} {P : Outcome → State → Prop} {S : List Value} {cd : ClassFile.Cond} {x : Int32} {o : Int} {pc' : Nat} (X : Stand p l e R s m args below meth c T locs cells slots) (hx : p.tables.exec = Jvm.exec) (hby : c.code = bts) (d : decode bts pc = .ok (.ifCond cd o, 3)) (h1 : ifCond.holds cd x = true) (ho : 0 ≤ (pc : Int) + o) (hp : ((pc : Int) + o).toNat = pc') (K : own_Goes p e below (T.setTop (mkF m pc' Ls S)) P) : own_Goes p e below (T.setTop (mkF m pc Ls (.int x :: S))) P := gg (fun t k => XS.ifYes X.here hx rfl rfl (hb hby d) rfl h1 ho hp k) K
theorem q_ifNo {bts : ByteArray} {pc : Nat} {Ls : Array Slot} {P : Outcome → State → Prop} {S : List Value} {cd : ClassFile.Cond} {x : Int32} {o : Int} (X : Stand p l e R s m args below meth c T locs cells slots) (hx : p.tables.exec = Jvm.exec) (hby : c.code = bts) (d : decode bts pc = .ok (.ifCond cd o, 3)) (h1 : ifCond.holds cd x = false) (K : own_Goes p e below (T.setTop (mkF m (pc + 3) Ls S)) P) : own_Goes p e below (T.setTop (mkF m pc Ls (.int x :: S))) P := gg (fun t k => XS.ifNo X.here hx rfl (hb hby d) rfl h1 k) K
theorem q_icmpYes {bts : ByteArray} {pc : Nat} {Ls : Array Slot} {P : Outcome → State → Prop} {S : List Value} {cd : ClassFile.Cond} {x y : Int32} {o : Int} {pc' : Nat} (X : Stand p l e R s m args below meth c T locs cells slots) (hx : p.tables.exec = Jvm.exec) (hby : c.code = bts) (d : decode bts pc = .ok (.if_icmp cd o, 3)) (h1 : if_icmp.holds cd x y = true) (ho : 0 ≤ (pc : Int) + o) (hp : ((pc : Int) + o).toNat = pc') (K : own_Goes p e below (T.setTop (mkF m pc' Ls S)) P) : own_Goes p e below (T.setTop (mkF m pc Ls (.int y :: .int x :: S))) P := gg (fun t k => XS.icmpYes X.here hx rfl rfl (hb hby d) rfl h1 ho hp k) K
theorem q_icmpNo {bts : ByteArray} {pc : Nat} {Ls : Array Slot} {P : Outcome → State → Prop} {S : List Value} {cd : ClassFile.Cond} {x y : Int32} {o : Int} (X : Stand p l e R s m args below meth c T locs cells slots) (hx : p.tables.exec = Jvm.exec) (hby : c.code = bts) (d : decode bts pc = .ok (.if_icmp cd o, 3)) (h1 : if_icmp.holds cd x y = false) (K : own_Goes p e below (T.setTop (mkF m (pc + 3) Ls S)) P) : own_Goes p e below (T.setTop (mkF m pc Ls (.int y :: .int x :: S))) P := gg (fun t k => XS.icmpNo X.here hx rfl (hb hby d) rfl h1 k) K
theorem q_ifnullYes {bts : ByteArray} {pc : Nat} {Ls : Array Slot} {P : Outcome → State → Prop} {S : List Value} {o : Int} {pc' : Nat} (X : Stand p l e R s m args below meth c T locs cells slots) (hx : p.tables.exec = Jvm.exec) (hby : c.code = bts) (d : decode bts pc = .ok (.ifnull o, 3)) (ho : 0 ≤ (pc : Int) + o) (hp : ((pc : Int) + o).toNat = pc') (K : own_Goes p e below (T.setTop (mkF m pc' Ls S)) P) : own_Goes p e below (T.setTop (mkF m pc Ls (.null :: S))) P := gg (fun t k => XS.ifnullYes X.here hx rfl rfl (hb hby d) rfl ho hp k) K
theorem q_ifnullNo {bts : ByteArray} {pc : Nat} {Ls : Array Slot} {P : Outcome → State → Prop} {S : List Value} {o : Int} {b : Addr} (X : Stand p l e R s m args below meth c T locs cells slots) (hx : p.tables.exec = Jvm.exec) (hby : c.code = bts) (d : decode bts pc = .ok (.ifnull o, 3)) (K : own_Goes p e below (T.setTop (mkF m (pc + 3) Ls S)) P) : own_Goes p e below (T.setTop (mkF m pc Ls (.ref b :: S))) P := gg (fun t k => XS.ifnullNo X.here hx rfl (hb hby d) rfl k) K
theorem k_I {bt0 : ByteArray} {pc : Nat} {Ls : Array Slot} {S : List Value} {P : Outcome → State → Prop} {Z : State} {a0 : Array Value} {h : Heap} {own : String} {index : Nat} {count : Nat} {C : String} {xi y : MethodName} (X : Stand p l e R s m args below meth c T locs cells slots) (hx : p.tables.exec = Jvm.exec) (hby : c.code = bt0) (hZ : Z.Warmed39 s.vm) (hown : s.vm.findClass own = some m.cls) (w1 : (Cond.methodLink own index xi).before a0 Z = true) (w2 : (Cond.declares xi).before a0 Z = true) (w3 : (Cond.interfaceMethod xi.cls xi.cls xi.name xi.desc).before a0 Z = true) (w4 : (Cond.selects C xi y).before a0 Z = true) (w5 : (Cond.instanceMethod y).before a0 Z = true) (w6 : (Cond.publicMethod y).before a0 Z = true) (w7 : (Cond.unhidden C xi.name xi.desc).before a0 Z = true) (w8 : (Cond.castable C xi.cls).before a0 Z = true) {bts : ByteArray} {maxL W ml : Nat} {ret : Option FieldType} {rm : Room} {as' : Array Value} {Q : Option Value → Heap → List Loc → Prop} (M : own_Met l Z y bts maxL ret [] rm as' h Q) (wc : (Cond.code y bts maxL ret).before a0 Z = true) (wz : (Cond.initialized (MethodName.cls y)).before a0 Z = true) (eT : T.heap = h) {b : Addr} (E : Exa Z h b C) (hml : c.maxLocals = ml) {argsL rest : List Value} {ps : List FieldType} {r : Option FieldType} (hd : parseMethodDescriptor (MethodName.desc xi) = some ⟨ps, r⟩) (d : decode bt0 pc = .ok (.invokeinterface index count, 5)) (K : ∀ (v : Option Value) (T' : State) (L' : List Loc), Stand p l e R s m args below meth c T' (locs ++ L') (cells + rm.cells) (slots + rm.slots) → Q v T'.heap L' → own_Goes p e below (T'.setTop (mkF m (pc + 5) Ls (v.toList ++ rest))) P) (hxi : xi.cls ≠ "java/lang/invoke/MethodHandle" ∧ xi.cls ≠ "java/lang/invoke/VarHandle" := by decide) (hf : rm.frames + 1 ≤ R.frames := by decide) (hl : W + (maxL + 11) + rm.locals ≤ R.locals := by decide) (hg : (mkF m pc Ls S).method = m := by rfl) (hsz : (mkF m pc Ls S).locals.size = ml := by rfl) (hl2 : argsL.length = ps.length := by rfl) (hstack : (mkF m pc Ls S).stack = argsL.reverse ++ .ref b :: rest := by rfl) (hmr : (mkF m pc Ls S).monitorRoom = 0 := by rfl) (hW : (rest.map fun v => v.category).sum = W := by rfl) (ha : (.ref b :: argsL).toArray = as' := by rfl) (hc : cells + rm.cells ≤ R.cells := by decide) (hs : slots + rm.slots ≤ R.slots := by decide) : own_Goes p e below (T.setTop (mkF m pc Ls S)) P := by
  obtain ⟨v, T', L', X', hQ, st⟩ := own_cI X hx hZ hown w1 w2 w3 w4 w5 w6 w7 w8 hxi M wc wz hf hl eT E (g := (mkF m pc Ls S)) hg hml hsz hd hl2 hstack hmr hW (hb hby d) ha hc hs
  exact st _ (K v T' L' X' hQ)
theorem k_V {bt0 : ByteArray} {pc : Nat} {Ls : Array Slot} {S : List Value} {P : Outcome → State → Prop} {Z : State} {a0 : Array Value} {h : Heap} {own : String} {index : Nat} {C : String} {y : MethodName} (X : Stand p l e R s m args below meth c T locs cells slots) (hx : p.tables.exec = Jvm.exec) (hby : c.code = bt0) (hZ : Z.Warmed39 s.vm) (hown : s.vm.findClass own = some m.cls) (w1 : (Cond.methodLink own index y).before a0 Z = true) (w2 : (Cond.declares y).before a0 Z = true) (w4 : (Cond.selects C y y).before a0 Z = true) (w5 : (Cond.instanceMethod y).before a0 Z = true) {bts : ByteArray} {maxL W ml : Nat} {ret : Option FieldType} {rm : Room} {as' : Array Value} {Q : Option Value → Heap → List Loc → Prop} (M : own_Met l Z y bts maxL ret [] rm as' h Q) (wc : (Cond.code y bts maxL ret).before a0 Z = true) (wz : (Cond.initialized (MethodName.cls y)).before a0 Z = true) (eT : T.heap = h) {b : Addr} (E : Exa Z h b C) (hml : c.maxLocals = ml) {argsL rest : List Value} {ps : List FieldType} {r : Option FieldType} (hd : parseMethodDescriptor (MethodName.desc y) = some ⟨ps, r⟩) (d : decode bt0 pc = .ok (.invokevirtual index, 3)) (K : ∀ (v : Option Value) (T' : State) (L' : List Loc), Stand p l e R s m args below meth c T' (locs ++ L') (cells + rm.cells) (slots + rm.slots) → Q v T'.heap L' → own_Goes p e below (T'.setTop (mkF m (pc + 3) Ls (v.toList ++ rest))) P) (hxi : y.cls ≠ "java/lang/invoke/MethodHandle" ∧ y.cls ≠ "java/lang/invoke/VarHandle" := by decide) (hf : rm.frames + 1 ≤ R.frames := by decide) (hl : W + (maxL + 11) + rm.locals ≤ R.locals := by decide) (hg : (mkF m pc Ls S).method = m := by rfl) (hsz : (mkF m pc Ls S).locals.size = ml := by rfl) (hl2 : argsL.length = ps.length := by rfl) (hstack : (mkF m pc Ls S).stack = argsL.reverse ++ .ref b :: rest := by rfl) (hmr : (mkF m pc Ls S).monitorRoom = 0 := by rfl) (hW : (rest.map fun v => v.category).sum = W := by rfl) (ha : (.ref b :: argsL).toArray = as' := by rfl) (hc : cells + rm.cells ≤ R.cells := by decide) (hs : slots + rm.slots ≤ R.slots := by decide) : own_Goes p e below (T.setTop (mkF m pc Ls S)) P := by
  obtain ⟨v, T', L', X', hQ, st⟩ := own_cV X hx hZ hown w1 w2 w4 w5 hxi M wc wz hf hl eT E (g := (mkF m pc Ls S)) hg hml hsz hd hl2 hstack hmr hW (hb hby d) ha hc hs
  exact st _ (K v T' L' X' hQ)
theorem k_Vn {bt0 : ByteArray} {pc : Nat} {Ls : Array Slot} {S : List Value} {P : Outcome → State → Prop} {Z : State} {a0 : Array Value} {h : Heap} {own : String} {index : Nat} {C C2 : String} {y z w2_ z2 : MethodName} (X : Stand p l e R s m args below meth c T locs cells slots) (hx : p.tables.exec = Jvm.exec) (hby : c.code = bt0) (hZ : Z.Warmed39 s.vm) (hown : s.vm.findClass own = some m.cls) (w1 : (Cond.methodLink own index y).before a0 Z = true) (w2 : (Cond.declares y).before a0 Z = true) (w3 : (Cond.selects C2 w2_ z2).before a0 Z = true) (w4 : (Cond.selects C y z).before a0 Z = true) (w5 : (Cond.instanceMethod z).before a0 Z = true) {bts : ByteArray} {maxL W ml : Nat} {ret : Option FieldType} {rm : Room} {as' : Array Value} {Q : Option Value → Heap → List Loc → Prop} (M : own_Met l Z z bts maxL ret [] rm as' h Q) (wc : (Cond.code z bts maxL ret).before a0 Z = true) (wz : (Cond.initialized (MethodName.cls z)).before a0 Z = true) (eT : T.heap = h) {b : Addr} (E : Exa Z h b C) (hml : c.maxLocals = ml) {argsL rest : List Value} {ps : List FieldType} {r : Option FieldType} (hd : parseMethodDescriptor (MethodName.desc y) = some ⟨ps, r⟩) (d : decode bt0 pc = .ok (.invokevirtual index, 3)) (K : ∀ (v : Option Value) (T' : State) (L' : List Loc), Stand p l e R s m args below meth c T' (locs ++ L') (cells + rm.cells) (slots + rm.slots) → Q v T'.heap L' → own_Goes p e below (T'.setTop (mkF m (pc + 3) Ls (v.toList ++ rest))) P) (w3c : z2.cls = y.cls := by rfl) (hxi : y.cls ≠ "java/lang/invoke/MethodHandle" ∧ y.cls ≠ "java/lang/invoke/VarHandle" := by decide) (hf : rm.frames + 1 ≤ R.frames := by decide) (hl : W + (maxL + 11) + rm.locals ≤ R.locals := by decide) (hg : (mkF m pc Ls S).method = m := by rfl) (hsz : (mkF m pc Ls S).locals.size = ml := by rfl) (hl2 : argsL.length = ps.length := by rfl) (hstack : (mkF m pc Ls S).stack = argsL.reverse ++ .ref b :: rest := by rfl) (hmr : (mkF m pc Ls S).monitorRoom = 0 := by rfl) (hW : (rest.map fun v => v.category).sum = W := by rfl) (ha : (.ref b :: argsL).toArray = as' := by rfl) (hc : cells + rm.cells ≤ R.cells := by decide) (hs : slots + rm.slots ≤ R.slots := by decide) : own_Goes p e below (T.setTop (mkF m pc Ls S)) P := by
  obtain ⟨v, T', L', X', hQ, st⟩ := own_cVn X hx hZ hown w1 w2 w3 w3c w4 w5 hxi M wc wz hf hl eT E (g := (mkF m pc Ls S)) hg hml hsz hd hl2 hstack hmr hW (hb hby d) ha hc hs
  exact st _ (K v T' L' X' hQ)
theorem k_VU {bt0 : ByteArray} {pc : Nat} {Ls : Array Slot} {S : List Value} {P : Outcome → State → Prop} {Z : State} {a0 : Array Value} {h : Heap} {own : String} {index : Nat} {C owner : String} {y z : MethodName} (X : Stand p l e R s m args below meth c T locs cells slots) (hx : p.tables.exec = Jvm.exec) (hby : c.code = bt0) (hZ : Z.Warmed39 s.vm) (hown : s.vm.findClass own = some m.cls) (w1 : (Cond.methodLink own index y).before a0 Z = true) (w2 : (Cond.sameMethod y.cls owner y.name y.desc).before a0 Z = true) (w3 : (Cond.declares ⟨owner, y.name, y.desc⟩).before a0 Z = true) (w4 : (Cond.selects C y z).before a0 Z = true) (w5 : (Cond.instanceMethod z).before a0 Z = true) {bts : ByteArray} {maxL W ml : Nat} {ret : Option FieldType} {rm : Room} {as' : Array Value} {Q : Option Value → Heap → List Loc → Prop} (M : own_Met l Z z bts maxL ret [] rm as' h Q) (wc : (Cond.code z bts maxL ret).before a0 Z = true) (wz : (Cond.initialized (MethodName.cls z)).before a0 Z = true) (eT : T.heap = h) {b : Addr} (E : Exa Z h b C) (hml : c.maxLocals = ml) {argsL rest : List Value} {ps : List FieldType} {r : Option FieldType} (hd : parseMethodDescriptor (MethodName.desc y) = some ⟨ps, r⟩) (d : decode bt0 pc = .ok (.invokevirtual index, 3)) (K : ∀ (v : Option Value) (T' : State) (L' : List Loc), Stand p l e R s m args below meth c T' (locs ++ L') (cells + rm.cells) (slots + rm.slots) → Q v T'.heap L' → own_Goes p e below (T'.setTop (mkF m (pc + 3) Ls (v.toList ++ rest))) P) (hxi : owner ≠ "java/lang/invoke/MethodHandle" ∧ owner ≠ "java/lang/invoke/VarHandle" := by decide) (hf : rm.frames + 1 ≤ R.frames := by decide) (hl : W + (maxL + 11) + rm.locals ≤ R.locals := by decide) (hg : (mkF m pc Ls S).method = m := by rfl) (hsz : (mkF m pc Ls S).locals.size = ml := by rfl) (hl2 : argsL.length = ps.length := by rfl) (hstack : (mkF m pc Ls S).stack = argsL.reverse ++ .ref b :: rest := by rfl) (hmr : (mkF m pc Ls S).monitorRoom = 0 := by rfl) (hW : (rest.map fun v => v.category).sum = W := by rfl) (ha : (.ref b :: argsL).toArray = as' := by rfl) (hc : cells + rm.cells ≤ R.cells := by decide) (hs : slots + rm.slots ≤ R.slots := by decide) : own_Goes p e below (T.setTop (mkF m pc Ls S)) P := by
  obtain ⟨v, T', L', X', hQ, st⟩ := own_cVU X hx hZ hown w1 w2 w3 w4 w5 hxi M wc wz hf hl eT E (g := (mkF m pc Ls S)) hg hml hsz hd hl2 hstack hmr hW (hb hby d) ha hc hs
  exact st _ (K v T' L' X' hQ)
theorem k_N {bt0 : ByteArray} {pc : Nat} {Ls : Array Slot} {S : List Value} {P : Outcome → State → Prop} {Z : State} {a0 : Array Value} {h : Heap} {own : String} {index : Nat} {y : MethodName} (X : Stand p l e R s m args below meth c T locs cells slots) (hx : p.tables.exec = Jvm.exec) (hby : c.code = bt0) (hZ : Z.Warmed39 s.vm) (hown : s.vm.findClass own = some m.cls) (w1 : (Cond.methodLink own index y).before a0 Z = true) (w5 : (Cond.instanceMethod y).before a0 Z = true) {bts : ByteArray} {maxL W ml : Nat} {rm : Room} {as' : Array Value} {Q : Option Value → Heap → List Loc → Prop} (M : own_Met l Z y bts maxL none [] rm as' h Q) (wc : (Cond.code y bts maxL none).before a0 Z = true) (wz : (Cond.initialized (MethodName.cls y)).before a0 Z = true) (eT : T.heap = h) {b : Addr} (hml : c.maxLocals = ml) {argsL rest : List Value} {ps : List FieldType} {r : Option FieldType} (hd : parseMethodDescriptor (MethodName.desc y) = some ⟨ps, r⟩) (d : decode bt0 pc = .ok (.invokespecial index, 3)) (K : ∀ (v : Option Value) (T' : State) (L' : List Loc), Stand p l e R s m args below meth c T' (locs ++ L') (cells + rm.cells) (slots + rm.slots) → Q v T'.heap L' → own_Goes p e below (T'.setTop (mkF m (pc + 3) Ls (v.toList ++ rest))) P) (hy1 : y.name = "<init>" := by rfl) (hxi : y.cls ≠ "java/lang/invoke/MethodHandle" ∧ y.cls ≠ "java/lang/invoke/VarHandle" := by decide) (hf : rm.frames + 1 ≤ R.frames := by decide) (hl : W + (maxL + 11) + rm.locals ≤ R.locals := by decide) (hg : (mkF m pc Ls S).method = m := by rfl) (hsz : (mkF m pc Ls S).locals.size = ml := by rfl) (hl2 : argsL.length = ps.length := by rfl) (hstack : (mkF m pc Ls S).stack = argsL.reverse ++ .ref b :: rest := by rfl) (hmr : (mkF m pc Ls S).monitorRoom = 0 := by rfl) (hW : (rest.map fun v => v.category).sum = W := by rfl) (ha : (.ref b :: argsL).toArray = as' := by rfl) (hc : cells + rm.cells ≤ R.cells := by decide) (hs : slots + rm.slots ≤ R.slots := by decide) : own_Goes p e below (T.setTop (mkF m pc Ls S)) P := by
  obtain ⟨v, T', L', X', hQ, st⟩ := own_cN X hx hZ hown w1 w5 hy1 hxi M wc wz hf hl eT (g := (mkF m pc Ls S)) hg hml hsz hd hl2 hstack hmr hW (hb hby d) ha hc hs
  exact st _ (K v T' L' X' hQ)
theorem k_S {bt0 : ByteArray} {pc : Nat} {Ls : Array Slot} {S : List Value} {P : Outcome → State → Prop} {Z : State} {a0 : Array Value} {h : Heap} {own : String} {index : Nat} {y : MethodName} (X : Stand p l e R s m args below meth c T locs cells slots) (hx : p.tables.exec = Jvm.exec) (hby : c.code = bt0) (hZ : Z.Warmed39 s.vm) (hown : s.vm.findClass own = some m.cls) (w1 : (Cond.methodLink own index y).before a0 Z = true) (w5 : (Cond.static y).before a0 Z = true) {bts : ByteArray} {maxL W ml : Nat} {ret : Option FieldType} {rm : Room} {as' : Array Value} {Q : Option Value → Heap → List Loc → Prop} (M : own_Met l Z y bts maxL ret [] rm as' h Q) (wc : (Cond.code y bts maxL ret).before a0 Z = true) (wz : (Cond.initialized (MethodName.cls y)).before a0 Z = true) (eT : T.heap = h) (hml : c.maxLocals = ml) {argsL rest : List Value} {ps : List FieldType} {r : Option FieldType} (hd : parseMethodDescriptor (MethodName.desc y) = some ⟨ps, r⟩) (d : decode bt0 pc = .ok (.invokestatic index, 3)) (K : ∀ (v : Option Value) (T' : State) (L' : List Loc), Stand p l e R s m args below meth c T' (locs ++ L') (cells + rm.cells) (slots + rm.slots) → Q v T'.heap L' → own_Goes p e below (T'.setTop (mkF m (pc + 3) Ls (v.toList ++ rest))) P) (hxi : y.cls ≠ "java/lang/invoke/MethodHandle" ∧ y.cls ≠ "java/lang/invoke/VarHandle" := by decide) (hf : rm.frames + 1 ≤ R.frames := by decide) (hl : W + (maxL + 11) + rm.locals ≤ R.locals := by decide) (hg : (mkF m pc Ls S).method = m := by rfl) (hsz : (mkF m pc Ls S).locals.size = ml := by rfl) (hl2 : argsL.length = ps.length := by rfl) (hstack : (mkF m pc Ls S).stack = argsL.reverse ++ rest := by rfl) (hmr : (mkF m pc Ls S).monitorRoom = 0 := by rfl) (hW : (rest.map fun v => v.category).sum = W := by rfl) (ha : argsL.toArray = as' := by rfl) (hc : cells + rm.cells ≤ R.cells := by decide) (hs : slots + rm.slots ≤ R.slots := by decide) : own_Goes p e below (T.setTop (mkF m pc Ls S)) P := by
  obtain ⟨v, T', L', X', hQ, st⟩ := own_cS X hx hZ hown w1 w5 hxi M wc wz hf hl eT (g := (mkF m pc Ls S)) hg hml hsz hd hl2 hstack hmr hW (hb hby d) ha hc hs
  exact st _ (K v T' L' X' hQ)
theorem qF {bts : ByteArray} {pc : Nat} {Ls : Array Slot} {S : List Value} {P : Outcome → State → Prop} {Z : State} {h : Heap} {a0 : Array Value} {own R0 O n d_ host : String} {index : Nat} {a : Addr} {v : Value} (X : Stand p l e R s m args below meth c T locs cells slots) (hx : p.tables.exec = Jvm.exec) (hby : c.code = bts) (hZ : Z.Warmed39 s.vm) (hown : s.vm.findClass own = some m.cls) (w : (Cond.fieldLink own index R0 n d_).before a0 Z = true ∨ (Cond.fieldLinkNest own index R0 n d_ host).before a0 Z = true) (via : Via Z R0 O n d_) (eT : T.heap = h) (F : Fld Z h a O n d_ v) (d : decode bts pc = .ok (.getfield index, 3)) (K : ∀ T', Stand p l e R s m args below meth c T' locs cells slots → T'.heap = h → own_Goes p e below (T'.setTop (mkF m (pc + 3) Ls (v :: S))) P) : own_Goes p e below (T.setTop (mkF m pc Ls (.ref a :: S))) P := by
  obtain ⟨T', X', e', st⟩ := getF X hx hZ hown w via eT F (g := mkF m pc Ls (.ref a :: S)) rfl rfl (hb hby d)
  exact gg st (K T' X' e')
theorem qG {bts : ByteArray} {pc : Nat} {Ls : Array Slot} {S : List Value} {P : Outcome → State → Prop} {Z : State} {h : Heap} {a0 : Array Value} {own R0 n d_ : String} {index : Nat} {a : Addr} {v : Value} (X : Stand p l e R s m args below meth c T locs cells slots) (hx : p.tables.exec = Jvm.exec) (hby : c.code = bts) (hZ : Z.Warmed39 s.vm) (hown : s.vm.findClass own = some m.cls) (w : (Cond.fieldLink own index R0 n d_).before a0 Z = true) (eT : T.heap = h) (F : Fld Z h a R0 n d_ v) (d : decode bts pc = .ok (.getfield index, 3)) (K : ∀ T', Stand p l e R s m args below meth c T' locs cells slots → T'.heap = h → own_Goes p e below (T'.setTop (mkF m (pc + 3) Ls (v :: S))) P) : own_Goes p e below (T.setTop (mkF m pc Ls (.ref a :: S))) P := qF (host := "") X hx hby hZ hown (Or.inl w) Via.refl eT F d K
theorem qS {bts : ByteArray} {pc : Nat} {Ls : Array Slot} {S : List Value} {P : Outcome → State → Prop} {Z : State} {h : Heap} {a0 : Array Value} {own R0 O n d_ host : String} {index : Nat} {v : Value} (X : Stand p l e R s m args below meth c T locs cells slots) (hx : p.tables.exec = Jvm.exec) (hby : c.code = bts) (hZ : Z.Warmed39 s.vm) (hown : s.vm.findClass own = some m.cls) (w : (Cond.fieldLink own index R0 n d_).before a0 Z = true ∨ (Cond.fieldLinkNest own index R0 n d_ host).before a0 Z = true) (via : Via Z R0 O n d_) (eT : T.heap = h) (F : Sta Z h O n d_ v) (d : decode bts pc = .ok (.getstatic index, 3)) (K : ∀ T', Stand p l e R s m args below meth c T' locs cells slots → T'.heap = h → own_Goes p e below (T'.setTop (mkF m (pc + 3) Ls (v :: S))) P) : own_Goes p e below (T.setTop (mkF m pc Ls S)) P := by
  obtain ⟨T', X', e', st⟩ := getS2 X hx hZ hown w via eT F (g := mkF m pc Ls S) rfl (hb hby d)
  exact gg st (K T' X' e')
theorem qP {bts : ByteArray} {pc : Nat} {Ls : Array Slot} {S : List Value} {P : Outcome → State → Prop} {Z : State} {h : Heap} {a0 : Array Value} {own R0 O n d_ host : String} {index : Nat} {C : String} {kk : Nat} {ty : FieldType} {a : Addr} {v old : Value} (X : Stand p l e R s m args below meth c T locs cells slots) (hx : p.tables.exec = Jvm.exec) (hby : c.code = bts) (hZ : Z.Warmed39 s.vm) (hown : s.vm.findClass own = some m.cls) (w : (Cond.fieldLink own index R0 n d_).before a0 Z = true ∨ (Cond.fieldLinkNest own index R0 n d_ host).before a0 Z = true) (via : Via Z R0 O n d_) (eT : T.heap = h) (F : Fld Z h a O n d_ old) (E : Exa Z h a C) (LW : (Cond.lays C O n d_).before a0 Z = true ∨ ((Cond.laysFinal C O n d_).before a0 Z = true ∧ own = O ∧ meth.name = "<init>")) (wi : (Cond.instantiable C kk).before a0 Z = true) (d : decode bts pc = .ok (.putfield index, 3)) (K : ∀ T' h', Stand p l e R s m args below meth c T' (locs ++ [⟨a, Jvm.RoadKit.slotOf Z O n d_⟩]) cells slots → T'.heap = h' → Wr h h' a (Jvm.RoadKit.slotOf Z O n d_) v → own_Goes p e below (T'.setTop (mkF m (pc + 3) Ls S)) P) (hty : parseFieldDescriptor d_ = some ty := by decide) (hn : narrow ty v = v := by rfl) (hf : fits ty v = true := by rfl) : own_Goes p e below (T.setTop (mkF m pc Ls (v :: .ref a :: S))) P := by
  obtain ⟨T', h', X', e', W', st⟩ := putF X hx hZ hown w via eT F E LW wi hty hn hf (g := mkF m pc Ls (v :: .ref a :: S)) rfl rfl (hb hby d)
  exact gg st (K T' h' X' e' W')
theorem q_caload {bts : ByteArray} {pc : Nat} {Ls : Array Slot} {S : List Value} {P : Outcome → State → Prop} {Z : State} {h : Heap} {a : Addr} {k : ClassId} {n j : Int32} {vs : List Value} {dv : Value} (X : Stand p l e R s m args below meth c T locs cells slots) (hx : p.tables.exec = Jvm.exec) (hby : c.code = bts) (hZ : Z.Warmed39 s.vm) (eT : T.heap = h) (V : Arv Z h a k .char n vs dv) (d : decode bts pc = .ok (.caload, 1)) (v : Value) (K : own_Goes p e below (T.setTop (mkF m (pc + 1) Ls (v :: S))) P) (hj : ¬ j < 0 := by decide) (hn : j < n := by decide) (hv : vs.getD j.toNatClampNeg dv = v := by rfl) : own_Goes p e below (T.setTop (mkF m pc Ls (.int j :: .ref a :: S))) P := by
  obtain ⟨cl, Ar, q, Sz, Ng, Hs, Gs⟩ := V
  have inb : ¬ (j < 0 ∨ cl.slots.size ≤ j.toNatClampNeg) := inb_of Sz ⟨hj, hn⟩
  have at_ : cl.slots[j.toNatClampNeg]? = some v := Hs.at inb hv
  exact gg (fun t k => X.caload hx (j := j) (v := v) (by rw [eT]; exact Ar.1) (State.isArrayOf_alike hZ.alike Ar.2.1) Ar.2.2 inb at_ (g := mkF m pc Ls (.int j :: .ref a :: S)) rfl rfl (hb hby d) _ k) K
theorem q_iaload {bts : ByteArray} {pc : Nat} {Ls : Array Slot} {S : List Value} {P : Outcome → State → Prop} {Z : State} {h : Heap} {a : Addr} {k : ClassId} {n j : Int32} {vs : List Value} {dv : Value} (X : Stand p l e R s m args below meth c T locs cells slots) (hx : p.tables.exec = Jvm.exec) (hby : c.code = bts) (hZ : Z.Warmed39 s.vm) (eT : T.heap = h) (V : Arv Z h a k .int n vs dv) (d : decode bts pc = .ok (.iaload, 1)) (v : Value) (K : own_Goes p e below (T.setTop (mkF m (pc + 1) Ls (v :: S))) P) (hj : ¬ j < 0 := by decide) (hn : j < n := by decide) (hv : vs.getD j.toNatClampNeg dv = v := by rfl) : own_Goes p e below (T.setTop (mkF m pc Ls (.int j :: .ref a :: S))) P := by
  obtain ⟨cl, Ar, q, Sz, Ng, Hs, Gs⟩ := V
  have inb : ¬ (j < 0 ∨ cl.slots.size ≤ j.toNatClampNeg) := inb_of Sz ⟨hj, hn⟩
  have at_ : cl.slots[j.toNatClampNeg]? = some v := Hs.at inb hv
  exact gg (fun t k => X.iaload hx (j := j) (v := v) (by rw [eT]; exact Ar.1) (State.isArrayOf_alike hZ.alike Ar.2.1) Ar.2.2 inb at_ (g := mkF m pc Ls (.int j :: .ref a :: S)) rfl rfl (hb hby d) _ k) K
theorem q_saload {bts : ByteArray} {pc : Nat} {Ls : Array Slot} {S : List Value} {P : Outcome → State → Prop} {Z : State} {h : Heap} {a : Addr} {k : ClassId} {n j : Int32} {vs : List Value} {dv : Value} (X : Stand p l e R s m args below meth c T locs cells slots) (hx : p.tables.exec = Jvm.exec) (hby : c.code = bts) (hZ : Z.Warmed39 s.vm) (eT : T.heap = h) (V : Arv Z h a k .short n vs dv) (d : decode bts pc = .ok (.saload, 1)) (v : Value) (K : own_Goes p e below (T.setTop (mkF m (pc + 1) Ls (v :: S))) P) (hj : ¬ j < 0 := by decide) (hn : j < n := by decide) (hv : vs.getD j.toNatClampNeg dv = v := by rfl) : own_Goes p e below (T.setTop (mkF m pc Ls (.int j :: .ref a :: S))) P := by
  obtain ⟨cl, Ar, q, Sz, Ng, Hs, Gs⟩ := V
  have inb : ¬ (j < 0 ∨ cl.slots.size ≤ j.toNatClampNeg) := inb_of Sz ⟨hj, hn⟩
  have at_ : cl.slots[j.toNatClampNeg]? = some v := Hs.at inb hv
  exact gg (fun t k => X.saload hx (j := j) (v := v) (by rw [eT]; exact Ar.1) (State.isArrayOf_alike hZ.alike Ar.2.1) Ar.2.2 inb at_ (g := mkF m pc Ls (.int j :: .ref a :: S)) rfl rfl (hb hby d) _ k) K
theorem q_laload {bts : ByteArray} {pc : Nat} {Ls : Array Slot} {S : List Value} {P : Outcome → State → Prop} {Z : State} {h : Heap} {a : Addr} {k : ClassId} {n j : Int32} {vs : List Value} {dv : Value} (X : Stand p l e R s m args below meth c T locs cells slots) (hx : p.tables.exec = Jvm.exec) (hby : c.code = bts) (hZ : Z.Warmed39 s.vm) (eT : T.heap = h) (V : Arv Z h a k .long n vs dv) (d : decode bts pc = .ok (.laload, 1)) (v : Value) (K : own_Goes p e below (T.setTop (mkF m (pc + 1) Ls (v :: S))) P) (hj : ¬ j < 0 := by decide) (hn : j < n := by decide) (hv : vs.getD j.toNatClampNeg dv = v := by rfl) : own_Goes p e below (T.setTop (mkF m pc Ls (.int j :: .ref a :: S))) P := by
  obtain ⟨cl, Ar, q, Sz, Ng, Hs, Gs⟩ := V
  have inb : ¬ (j < 0 ∨ cl.slots.size ≤ j.toNatClampNeg) := inb_of Sz ⟨hj, hn⟩
  have at_ : cl.slots[j.toNatClampNeg]? = some v := Hs.at inb hv
  exact gg (fun t k => X.laload hx (j := j) (v := v) (by rw [eT]; exact Ar.1) (State.isArrayOf_alike hZ.alike Ar.2.1) Ar.2.2 inb at_ (g := mkF m pc Ls (.int j :: .ref a :: S)) rfl rfl (hb hby d) _ k) K
theorem q_baloadBytes {bts : ByteArray} {pc : Nat} {Ls : Array Slot} {S : List Value} {P : Outcome → State → Prop} {Z : State} {h : Heap} {a : Addr} {k : ClassId} {n j : Int32} {vs : List Value} {dv : Value} (X : Stand p l e R s m args below meth c T locs cells slots) (hx : p.tables.exec = Jvm.exec) (hby : c.code = bts) (hZ : Z.Warmed39 s.vm) (eT : T.heap = h) (V : Arv Z h a k .byte n vs dv) (d : decode bts pc = .ok (.baload, 1)) (v : Value) (K : own_Goes p e below (T.setTop (mkF m (pc + 1) Ls (v :: S))) P) (hj : ¬ j < 0 := by decide) (hn : j < n := by decide) (hv : vs.getD j.toNatClampNeg dv = v := by rfl) : own_Goes p e below (T.setTop (mkF m pc Ls (.int j :: .ref a :: S))) P := by
  obtain ⟨cl, Ar, q, Sz, Ng, Hs, Gs⟩ := V
  have inb : ¬ (j < 0 ∨ cl.slots.size ≤ j.toNatClampNeg) := inb_of Sz ⟨hj, hn⟩
  have at_ : cl.slots[j.toNatClampNeg]? = some v := Hs.at inb hv
  exact gg (fun t k => X.baloadBytes hx (j := j) (v := v) (by rw [eT]; exact Ar.1) (State.isArrayOf_alike hZ.alike Ar.2.1) Ar.2.2 inb at_ (g := mkF m pc Ls (.int j :: .ref a :: S)) rfl rfl (hb hby d) _ k) K
theorem q_aaload {bts : ByteArray} {pc : Nat} {Ls : Array Slot} {S : List Value} {P : Outcome → State → Prop} {Z : State} {h : Heap} {a : Addr} {k : ClassId} {n j : Int32} {vs : List Value} {dv : Value} {ty : FieldType} (X : Stand p l e R s m args below meth c T locs cells slots) (hx : p.tables.exec = Jvm.exec) (hby : c.code = bts) (hZ : Z.Warmed39 s.vm) (eT : T.heap = h) (V : Arv Z h a k ty n vs dv) (d : decode bts pc = .ok (.aaload, 1)) (v : Value) (K : own_Goes p e below (T.setTop (mkF m (pc + 1) Ls (v :: S))) P) (hty : ty.isReference = true := by rfl) (hj : ¬ j < 0 := by decide) (hn : j < n := by decide) (hv : vs.getD j.toNatClampNeg dv = v := by rfl) : own_Goes p e below (T.setTop (mkF m pc Ls (.int j :: .ref a :: S))) P := by
  obtain ⟨cl, Ar, q, Sz, Ng, Hs, Gs⟩ := V
  have inb : ¬ (j < 0 ∨ cl.slots.size ≤ j.toNatClampNeg) := inb_of Sz ⟨hj, hn⟩
  have at_ : cl.slots[j.toNatClampNeg]? = some v := Hs.at inb hv
  exact gg (fun t k => X.aaload hx (j := j) (v := v) (by rw [eT]; exact Ar.1) (State.isArrayOf_alike hZ.alike Ar.2.1) hty Ar.2.2 inb at_ (g := mkF m pc Ls (.int j :: .ref a :: S)) rfl rfl (hb hby d) _ k) K
theorem q_len {bts : ByteArray} {pc : Nat} {Ls : Array Slot} {S : List Value} {P : Outcome → State → Prop} {Z : State} {h : Heap} {a : Addr} {k : ClassId} {n : Int32} {vs : List Value} {dv : Value} {ty : FieldType} (X : Stand p l e R s m args below meth c T locs cells slots) (hx : p.tables.exec = Jvm.exec) (hby : c.code = bts) (hZ : Z.Warmed39 s.vm) (eT : T.heap = h) (V : Arv Z h a k ty n vs dv) (d : decode bts pc = .ok (.arraylength, 1)) (K : own_Goes p e below (T.setTop (mkF m (pc + 1) Ls (.int n :: S))) P) : own_Goes p e below (T.setTop (mkF m pc Ls (.ref a :: S))) P := by
  obtain ⟨cl, Ar, q, Sz, Ng, Hs, Gs⟩ := V
  refine gg (fun t k => X.arraylength hx (by rw [eT]; exact Ar.1) (State.isArrayOf_alike hZ.alike Ar.2.1) (g := mkF m pc Ls (.ref a :: S)) rfl rfl (hb hby d) _ k) ?_
  rw [len_of Sz Ng]
  exact K
theorem q_stB {bts : ByteArray} {pc : Nat} {Ls : Array Slot} {S : List Value} {P : Outcome → State → Prop} {Z : State} {h : Heap} {a : Addr} {k : ClassId} {n j x : Int32} {vs : List Value} {dv : Value} (X : Stand p l e R s m args below meth c T locs cells slots) (hx : p.tables.exec = Jvm.exec) (hby : c.code = bts) (hZ : Z.Warmed39 s.vm) (eT : T.heap = h) (V : Arv Z h a k .byte n vs dv) (i : Nat) (d : decode bts pc = .ok (.bastore, 1)) (K : ∀ T' h', Stand p l e R s m args below meth c T' (locs ++ [⟨a, j.toNatClampNeg⟩]) cells slots → T'.heap = h' → Wr h h' a j.toNatClampNeg (.int (nar .byte x)) → Arv Z h' a k .byte n (vs.set i (.int (nar .byte x))) dv → own_Goes p e below (T'.setTop (mkF m (pc + 1) Ls S)) P) (hj : ¬ j < 0 := by decide) (hn : j < n := by decide) (hi : j.toNatClampNeg = i := by rfl) (hl : i < vs.length := by exact Nat.le_of_ble_eq_true rfl) : own_Goes p e below (T.setTop (mkF m pc Ls (.int x :: .int j :: .ref a :: S))) P := by
  obtain ⟨cl, Ar, q, Sz, Ng, Hs, Gs⟩ := V
  have inb : ¬ (j < 0 ∨ cl.slots.size ≤ j.toNatClampNeg) := inb_of Sz ⟨hj, hn⟩
  obtain ⟨T', h', X', e', W', st⟩ := stB X hx hZ eT Ar (j := j) inb (g := mkF m pc Ls (.int x :: .int j :: .ref a :: S)) rfl rfl (hb hby d)
  exact gg st (K T' h' X' e' W' (Arv.set Ar q Sz Ng Hs Gs (fits_nar_byte _) W' i hi hl))
theorem q_stC {bts : ByteArray} {pc : Nat} {Ls : Array Slot} {S : List Value} {P : Outcome → State → Prop} {Z : State} {h : Heap} {a : Addr} {k : ClassId} {n j x : Int32} {vs : List Value} {dv : Value} (X : Stand p l e R s m args below meth c T locs cells slots) (hx : p.tables.exec = Jvm.exec) (hby : c.code = bts) (hZ : Z.Warmed39 s.vm) (eT : T.heap = h) (V : Arv Z h a k .char n vs dv) (i : Nat) (d : decode bts pc = .ok (.castore, 1)) (K : ∀ T' h', Stand p l e R s m args below meth c T' (locs ++ [⟨a, j.toNatClampNeg⟩]) cells slots → T'.heap = h' → Wr h h' a j.toNatClampNeg (.int (nar .char x)) → Arv Z h' a k .char n (vs.set i (.int (nar .char x))) dv → own_Goes p e below (T'.setTop (mkF m (pc + 1) Ls S)) P) (hj : ¬ j < 0 := by decide) (hn : j < n := by decide) (hi : j.toNatClampNeg = i := by rfl) (hl : i < vs.length := by exact Nat.le_of_ble_eq_true rfl) : own_Goes p e below (T.setTop (mkF m pc Ls (.int x :: .int j :: .ref a :: S))) P := by
  obtain ⟨cl, Ar, q, Sz, Ng, Hs, Gs⟩ := V
  have inb : ¬ (j < 0 ∨ cl.slots.size ≤ j.toNatClampNeg) := inb_of Sz ⟨hj, hn⟩
  obtain ⟨T', h', X', e', W', st⟩ := stC X hx hZ eT Ar (j := j) inb (g := mkF m pc Ls (.int x :: .int j :: .ref a :: S)) rfl rfl (hb hby d)
  exact gg st (K T' h' X' e' W' (Arv.set Ar q Sz Ng Hs Gs (fits_nar_char _) W' i hi hl))
theorem q_stI {bts : ByteArray} {pc : Nat} {Ls : Array Slot} {S : List Value} {P : Outcome → State → Prop} {Z : State} {h : Heap} {a : Addr} {k : ClassId} {n j x : Int32} {vs : List Value} {dv : Value} (X : Stand p l e R s m args below meth c T locs cells slots) (hx : p.tables.exec = Jvm.exec) (hby : c.code = bts) (hZ : Z.Warmed39 s.vm) (eT : T.heap = h) (V : Arv Z h a k .int n vs dv) (i : Nat) (d : decode bts pc = .ok (.iastore, 1)) (K : ∀ T' h', Stand p l e R s m args below meth c T' (locs ++ [⟨a, j.toNatClampNeg⟩]) cells slots → T'.heap = h' → Wr h h' a j.toNatClampNeg (.int (x)) → Arv Z h' a k .int n (vs.set i (.int (x))) dv → own_Goes p e below (T'.setTop (mkF m (pc + 1) Ls S)) P) (hj : ¬ j < 0 := by decide) (hn : j < n := by decide) (hi : j.toNatClampNeg = i := by rfl) (hl : i < vs.length := by exact Nat.le_of_ble_eq_true rfl) : own_Goes p e below (T.setTop (mkF m pc Ls (.int x :: .int j :: .ref a :: S))) P := by
  obtain ⟨cl, Ar, q, Sz, Ng, Hs, Gs⟩ := V
  have inb : ¬ (j < 0 ∨ cl.slots.size ≤ j.toNatClampNeg) := inb_of Sz ⟨hj, hn⟩
  obtain ⟨T', h', X', e', W', st⟩ := stI X hx hZ eT Ar (j := j) inb (g := mkF m pc Ls (.int x :: .int j :: .ref a :: S)) rfl rfl (hb hby d)
  exact gg st (K T' h' X' e' W' (Arv.set Ar q Sz Ng Hs Gs rfl W' i hi hl))
theorem r_I {bts : ByteArray} {pc : Nat} {Ls : Array Slot} {S : List Value} {h : Heap} {Qc : Option Value → Heap → List Loc → Prop} {k n : Nat} {z : Int32} (X : Stand p l e R s m args below meth c T locs cells slots) (hx : p.tables.exec = Jvm.exec) (hby : c.code = bts) (hret : meth.sig.returnType = some .int) (hlk : meth.locks = false) (d : decode bts pc = .ok (.ireturn, 1)) (eT : T.heap = h) (hQ : Qc (some (.int z)) h locs) (hn : narrow .int (.int z) = .int z := by rfl) (hk : cells ≤ k := by decide) (hs : slots ≤ n := by decide) : own_Goes p e below (T.setTop (mkF m pc Ls (.int z :: S))) (own_PostN s Qc k n) := by
  subst eT
  exact own_endN X (v := some (.int z)) (fun h => by rw [hret] at h; cases h) hlk hk hs hQ (fun fs hr => retOut X hx hret hn (Or.inl ⟨rfl, Or.inl rfl, _, rfl⟩) (hb hby d) hr)
theorem r_Z {bts : ByteArray} {pc : Nat} {Ls : Array Slot} {S : List Value} {h : Heap} {Qc : Option Value → Heap → List Loc → Prop} {k n : Nat} {z : Int32} (X : Stand p l e R s m args below meth c T locs cells slots) (hx : p.tables.exec = Jvm.exec) (hby : c.code = bts) (hret : meth.sig.returnType = some .boolean) (hlk : meth.locks = false) (d : decode bts pc = .ok (.ireturn, 1)) (eT : T.heap = h) (hQ : Qc (some (.int z)) h locs) (hn : narrow .boolean (.int z) = .int z := by rfl) (hk : cells ≤ k := by decide) (hs : slots ≤ n := by decide) : own_Goes p e below (T.setTop (mkF m pc Ls (.int z :: S))) (own_PostN s Qc k n) := by
  subst eT
  exact own_endN X (v := some (.int z)) (fun h => by rw [hret] at h; cases h) hlk hk hs hQ (fun fs hr => retOut X hx hret hn (Or.inl ⟨rfl, Or.inr (Or.inl rfl), _, rfl⟩) (hb hby d) hr)
theorem r_B {bts : ByteArray} {pc : Nat} {Ls : Array Slot} {S : List Value} {h : Heap} {Qc : Option Value → Heap → List Loc → Prop} {k n : Nat} {z : Int32} (X : Stand p l e R s m args below meth c T locs cells slots) (hx : p.tables.exec = Jvm.exec) (hby : c.code = bts) (hret : meth.sig.returnType = some .byte) (hlk : meth.locks = false) (d : decode bts pc = .ok (.ireturn, 1)) (eT : T.heap = h) (hQ : Qc (some (.int z)) h locs) (hn : narrow .byte (.int z) = .int z := by rfl) (hk : cells ≤ k := by decide) (hs : slots ≤ n := by decide) : own_Goes p e below (T.setTop (mkF m pc Ls (.int z :: S))) (own_PostN s Qc k n) := by
  subst eT
  exact own_endN X (v := some (.int z)) (fun h => by rw [hret] at h; cases h) hlk hk hs hQ (fun fs hr => retOut X hx hret hn (Or.inl ⟨rfl, Or.inr (Or.inr (Or.inl rfl)), _, rfl⟩) (hb hby d) hr)
theorem r_C {bts : ByteArray} {pc : Nat} {Ls : Array Slot} {S : List Value} {h : Heap} {Qc : Option Value → Heap → List Loc → Prop} {k n : Nat} {z : Int32} (X : Stand p l e R s m args below meth c T locs cells slots) (hx : p.tables.exec = Jvm.exec) (hby : c.code = bts) (hret : meth.sig.returnType = some .char) (hlk : meth.locks = false) (d : decode bts pc = .ok (.ireturn, 1)) (eT : T.heap = h) (hQ : Qc (some (.int z)) h locs) (hn : narrow .char (.int z) = .int z := by rfl) (hk : cells ≤ k := by decide) (hs : slots ≤ n := by decide) : own_Goes p e below (T.setTop (mkF m pc Ls (.int z :: S))) (own_PostN s Qc k n) := by
  subst eT
  exact own_endN X (v := some (.int z)) (fun h => by rw [hret] at h; cases h) hlk hk hs hQ (fun fs hr => retOut X hx hret hn (Or.inl ⟨rfl, Or.inr (Or.inr (Or.inr (Or.inl rfl))), _, rfl⟩) (hb hby d) hr)
theorem r_S {bts : ByteArray} {pc : Nat} {Ls : Array Slot} {S : List Value} {h : Heap} {Qc : Option Value → Heap → List Loc → Prop} {k n : Nat} {z : Int32} (X : Stand p l e R s m args below meth c T locs cells slots) (hx : p.tables.exec = Jvm.exec) (hby : c.code = bts) (hret : meth.sig.returnType = some .short) (hlk : meth.locks = false) (d : decode bts pc = .ok (.ireturn, 1)) (eT : T.heap = h) (hQ : Qc (some (.int z)) h locs) (hn : narrow .short (.int z) = .int z := by rfl) (hk : cells ≤ k := by decide) (hs : slots ≤ n := by decide) : own_Goes p e below (T.setTop (mkF m pc Ls (.int z :: S))) (own_PostN s Qc k n) := by
  subst eT
  exact own_endN X (v := some (.int z)) (fun h => by rw [hret] at h; cases h) hlk hk hs hQ (fun fs hr => retOut X hx hret hn (Or.inl ⟨rfl, Or.inr (Or.inr (Or.inr (Or.inr (rfl)))), _, rfl⟩) (hb hby d) hr)
theorem r_R {bts : ByteArray} {pc : Nat} {Ls : Array Slot} {S : List Value} {h : Heap} {Qc : Option Value → Heap → List Loc → Prop} {k n : Nat} {w : Value} {t : FieldType} (X : Stand p l e R s m args below meth c T locs cells slots) (hx : p.tables.exec = Jvm.exec) (hby : c.code = bts) (hret : meth.sig.returnType = some t) (hlk : meth.locks = false) (d : decode bts pc = .ok (.areturn, 1)) (eT : T.heap = h) (hQ : Qc (some w) h locs) (hn : narrow t w = w := by rfl) (ht : t.isReference = true := by rfl) (hw : w.isRef = true := by rfl) (hk : cells ≤ k := by decide) (hs : slots ≤ n := by decide) : own_Goes p e below (T.setTop (mkF m pc Ls (w :: S))) (own_PostN s Qc k n) := by
  subst eT
  exact own_endN X (v := some w) (fun h => by rw [hret] at h; cases h) hlk hk hs hQ (fun fs hr => retOut X hx hret hn (Or.inr (Or.inr (Or.inr (Or.inr ⟨rfl, ht, hw⟩)))) (hb hby d) hr)
theorem r_V {bts : ByteArray} {pc : Nat} {Ls : Array Slot} {h : Heap} {Qc : Option Value → Heap → List Loc → Prop} {k n : Nat} (X : Stand p l e R s m args below meth c T locs cells slots) (hx : p.tables.exec = Jvm.exec) (hby : c.code = bts) (hret : meth.sig.returnType = none) (hlk : meth.locks = false) (d : decode bts pc = .ok (.return_, 1)) (eT : T.heap = h) (hQ : Qc none h locs) (hk : cells ≤ k := by decide) (hs : slots ≤ n := by decide) : own_Goes p e below (T.setTop (mkF m pc Ls [])) (own_PostN s Qc k n) := by
  subst eT
  exact own_endN X (v := none) (fun _ => rfl) hlk hk hs hQ (fun fs hr => X.returnOut hx hret (hb hby d) hr)
end OwnKit2
def GG (Z : State) (gz : Int32) (gfm : Value) (gwC : Addr) (gwM : Addr) : Prop := Sta Z Z.heap "java/lang/String" "COMPACT_STRINGS" "Z" (.int gz) ∧ ¬ gz = (0 : Int32) ∧ Sta Z Z.heap "java/lang/StringUTF16" "$assertionsDisabled" "Z" (.int 1) ∧ Sta Z Z.heap "java/lang/StringUTF16" "HI_BYTE_SHIFT" "I" (.int 0) ∧ Sta Z Z.heap "java/lang/StringUTF16" "LO_BYTE_SHIFT" "I" (.int 8) ∧ Sta Z Z.heap "jdk/internal/util/Preconditions" "SIOOBE_FORMATTER" "Ljava/util/function/BiFunction;" gfm ∧ gfm.isRef = true ∧ Sta Z Z.heap "com/example/circa_once/circaonce/model/Scope$Kind" "COMMAND" "Lcom/example/circa_once/circaonce/model/Scope$Kind;" (.ref gwC) ∧ Exa Z Z.heap gwC "com/example/circa_once/circaonce/model/Scope$Kind" ∧ Sta Z Z.heap "com/example/circa_once/circaonce/model/Scope$Kind" "MESSAGE" "Lcom/example/circa_once/circaonce/model/Scope$Kind;" (.ref gwM) ∧ Exa Z Z.heap gwM "com/example/circa_once/circaonce/model/Scope$Kind" ∧ ¬ gwM = gwC
theorem own_strs {Z : State} {a0 : Array Value} (hw : ∀ d ∈ tables_1, d.before a0 Z = true) : ∀ a ∈ Bundle.stringAtoms, a.before a0 Z = true := by
  intro a ha
  simp only [Bundle.stringAtoms, List.mem_cons, List.not_mem_nil, or_false] at ha
  rcases ha with rfl | rfl | rfl | rfl | rfl | rfl | rfl
  · exact (wh hw 6 rfl)
  · exact (wh hw 5 rfl)
  · exact (wh hw 19 rfl)
  · exact (wh hw 20 rfl)
  · exact (wh hw 21 rfl)
  · exact (wh hw 22 rfl)
  · exact (wh hw 23 rfl)
theorem own_EW {Z : State} {a0 : Array Value} (hw : ∀ d ∈ tables_1, d.before a0 Z = true) : EW Z a0 consts_1 := (EW.cons (wh hw 41 rfl) (by decide) (EW.cons (wh hw 60 rfl) (by decide) (EW.cons (wh hw 88 rfl) (by decide) (EW.cons (wh hw 146 rfl) (by decide) (EW.cons (wh hw 149 rfl) (by decide) (EW.cons (wh hw 18 rfl) (by decide) EW.nil))))))
theorem own_len {s : State} {args : Array Value} {t : Term} {w : Addr} {cl : Cell} {ty : FieldType} {n : Int32} (ev : t.eval args s none [] s = some (.ref w)) (A : Arr s s.heap w cl ty) (l : (Term.length t).eval args s none [] s = some (.int n)) : cl.slots.size.toInt32 = n ∧ cl.slots.size < 2 ^ 31 := by
  have ha : s.arrayAt? w = some cl := A.fin (Vm.Alike.refl _)
  by_cases hl : cl.slots.size < 2 ^ 31
  · exact ⟨Value.int.inj (Option.some.inj ((len_f ev ha hl).symm.trans l)), hl⟩
  · simp [Term.eval, ev, ha, hl] at l
theorem own_sub {s : State} {args : Array Value} {t : Term} {idx : List Nat} {j n : Int32} (e : t.eval args s none idx s = some (.int j)) : (Term.sub t (.int n)).eval args s none idx s = some (.int (j - n)) := by
  simp [Term.eval, e]
theorem own_fldNull {s : State} {args : Array Value} {t : Term} {C n d : String} {w : Addr} (ev : t.eval args s none [] s = some (.ref w)) (h : (Cond.eq (Term.field t C n d) .null).value args s none s [] = some true) : Fld s s.heap w C n d .null := Fld.start ((fld_at ev).symm.trans (null_v h))

theorem own_wEq {Z : State} {a0 : Array Value} (hw : ∀ d ∈ tables_1, d.before a0 Z = true) : ∀ d ∈ StrChars.Road.wordsEq, d.before a0 Z = true := fun d hd => hw d ((by decide +kernel : ∀ d ∈ StrChars.Road.wordsEq, d ∈ tables_1) d hd)

def own_Cod (Z : State) (h : Heap) (t : Addr) (cs : List Int32) : Prop := ∃ (kb : ClassId) (cd N2 : Int32) (vs : List Value), Arv Z h t kb .byte N2 vs (.int 0) ∧ StrChars.Road.CodA cs cd N2 vs
def own_Str (Z : State) (h : Heap) (x t : Addr) (cs : List Int32) : Prop := Exa Z h x "java/lang/String" ∧ Fld Z h x "java/lang/String" "value" "[B" (.ref t) ∧ ∃ (kb : ClassId) (cd N2 : Int32) (vs : List Value), Fld Z h x "java/lang/String" "coder" "B" (.int cd) ∧ Arv Z h t kb .byte N2 vs (.int 0) ∧ StrChars.Road.CodA cs cd N2 vs ∧ (∀ c ∈ cs, ¬ c < 0 ∧ ¬ (65535 : Int32) < c) ∧ cs.length ≤ 4000
theorem own_Str.lt2 {Z : State} {h : Heap} {x t : Addr} {cs : List Int32} (S : own_Str Z h x t cs) : t < h.size := by
  obtain ⟨-, -, _, _, _, _, -, A, -⟩ := S
  exact A.lt
theorem own_Str.ext {Z : State} {h h' : Heap} {x t : Addr} {cs : List Int32} (S : own_Str Z h x t cs) (E : Ext h h') : own_Str Z h' x t cs := by
  obtain ⟨a, b, kb, cd, N2, vs, c, d, r⟩ := S
  exact ⟨a.ext E, b.ext E, kb, cd, N2, vs, c.ext E, d.ext E, r⟩
theorem own_Str.other {Z : State} {h h' : Heap} {x t a : Addr} {sl : Nat} {v : Value} {cs : List Int32} (S : own_Str Z h x t cs) (W : Wr h h' a sl v) (n1 : x ≠ a) (n2 : t ≠ a) : own_Str Z h' x t cs := by
  obtain ⟨a1, b, kb, cd, N2, vs, c, d, r⟩ := S
  exact ⟨a1.wr W, b.other W (Or.inl n1), kb, cd, N2, vs, c.other W (Or.inl n1), d.other W n2, r⟩
theorem own_Str.keep {Z : State} {h h' : Heap} {x t : Addr} {ws : List Addr} {cs : List Int32} (S : own_Str Z h x t cs) (K : Keep h h' ws) (n1 : x ∉ ws) (n2 : t ∉ ws) : own_Str Z h' x t cs := by
  obtain ⟨a1, b, kb, cd, N2, vs, c, d, r⟩ := S
  exact ⟨a1.keep K, b.keep K n1, kb, cd, N2, vs, c.keep K n1, d.keep K n2, r⟩
def own_C16 (c : Int32) : Prop := ¬ c < 0 ∧ ¬ (65535 : Int32) < c
theorem own_e0 : (0 : Int32).toInt = 0 := by decide
theorem own_e255 : (255 : Int32).toInt = 255 := by decide
theorem own_e65 : (65535 : Int32).toInt = 65535 := by decide
theorem own_eqJ {a b : Int32} (h : a.toInt = b.toInt) : a = b := Int32.toInt_inj.mp h
theorem own_C16b {c : Int32} (h : own_C16 c) : 0 ≤ c.toInt ∧ c.toInt ≤ 65535 := by
  obtain ⟨h1, h2⟩ := h
  rw [Int32.lt_iff_toInt_lt] at h1 h2
  have := own_e0; have := own_e65; omega
theorem own_C16i (x : Int32) : own_C16 (x.toUInt32.toUInt16.toUInt32.toInt32) := by
  have q := c_i2c x
  have := own_e0; have := own_e65
  exact ⟨by rw [Int32.lt_iff_toInt_lt]; omega, by rw [Int32.lt_iff_toInt_lt]; omega⟩
theorem own_nar16 {x : Int32} (h : own_C16 x) : nar .char x = x := by
  have q := c_i2c x
  have b := own_C16b h
  have r : x.toUInt32.toUInt16.toUInt32.toInt32.toInt = x.toInt := by omega
  exact own_eqJ r
theorem own_narr16 {x : Int32} (h : own_C16 x) : narrow .char (.int x) = .int x := congrArg Value.int (own_nar16 h)
theorem own_sh0 (x : Int32) : (x >>> ((0 : Int32) &&& 31)) = x := by
  have q := c_ishr x 0 0 (by decide)
  apply own_eqJ
  omega
theorem own_i8i8 (x : Int32) : x.toInt8.toInt32.toInt8.toInt32 = x.toInt8.toInt32 := by
  have q := c_i2b x
  have r := c_i2b x.toInt8.toInt32
  apply own_eqJ
  omega
theorem own_b8 {c : Int32} (h : own_C16 c) (h2 : ¬ (255 : Int32) < c) : ((c.toInt8.toInt32) &&& (255 : Int32)) = c := by
  have b := own_C16b h
  rw [Int32.lt_iff_toInt_lt] at h2
  have q := c_i2b c
  have r := c_mask (c.toInt8.toInt32) 255 8 (by decide) (by decide)
  have := own_e255
  apply own_eqJ
  omega
theorem own_g16 {c : Int32} (h : own_C16 c) : (((((c.toInt8.toInt32) &&& (255 : Int32)) <<< ((0 : Int32) &&& 31)) ||| ((((c >>> ((8 : Int32) &&& 31)).toInt8.toInt32) &&& (255 : Int32)) <<< ((8 : Int32) &&& 31))).toUInt32.toUInt16.toUInt32.toInt32) = c := by
  have b := own_C16b h
  have q1 := c_i2b c
  have q2 := c_mask (c.toInt8.toInt32) 255 8 (by decide) (by decide)
  have q3 := c_ishr c 8 8 (by decide)
  have q4 := c_i2b (c >>> ((8 : Int32) &&& 31))
  have q5 := c_mask ((c >>> ((8 : Int32) &&& 31)).toInt8.toInt32) 255 8 (by decide) (by decide)
  have q6 := c_ishl ((c.toInt8.toInt32) &&& (255 : Int32)) 0 0 (by decide)
  have q7 := c_ishl (((c >>> ((8 : Int32) &&& 31)).toInt8.toInt32) &&& (255 : Int32)) 8 8 (by decide)
  have r6 := rng32 (((c.toInt8.toInt32) &&& (255 : Int32)) <<< ((0 : Int32) &&& 31))
  have r7 := rng32 ((((c >>> ((8 : Int32) &&& 31)).toInt8.toInt32) &&& (255 : Int32)) <<< ((8 : Int32) &&& 31))
  have q8 := c_or' (((c.toInt8.toInt32) &&& (255 : Int32)) <<< ((0 : Int32) &&& 31)) ((((c >>> ((8 : Int32) &&& 31)).toInt8.toInt32) &&& (255 : Int32)) <<< ((8 : Int32) &&& 31)) 8 (by decide) 256 (by decide) (by omega) (by omega) (by omega)
  have q9 := c_i2c ((((c.toInt8.toInt32) &&& (255 : Int32)) <<< ((0 : Int32) &&& 31)) ||| ((((c >>> ((8 : Int32) &&& 31)).toInt8.toInt32) &&& (255 : Int32)) <<< ((8 : Int32) &&& 31)))
  apply own_eqJ
  omega
theorem own_al0 {P : Int32 → Prop} : ∀ c ∈ ([] : List Int32), P c := fun _ h => nomatch h
theorem own_alS {P : Int32 → Prop} {x : Int32} {xs : List Int32} (h : P x) (t : ∀ c ∈ xs, P c) : ∀ c ∈ x :: xs, P c := List.forall_mem_cons.mpr ⟨h, t⟩

theorem d30_0 : decode B30 0 = .ok (.iload_n 0, 1) := by decide +kernel
theorem d30_1 : decode B30 1 = .ok (.ifCond .ge 11, 3) := by decide +kernel
theorem d30_12 : decode B30 12 = .ok (.iload_n 0, 1) := by decide +kernel
theorem d30_13 : decode B30 13 = .ok (.ldc 20, 2) := by decide +kernel
theorem d30_15 : decode B30 15 = .ok (.if_icmp .lt 40, 3) := by decide +kernel
theorem d30_55 : decode B30 55 = .ok (.iload_n 0, 1) := by decide +kernel
theorem d30_56 : decode B30 56 = .ok (.iconst 1, 1) := by decide +kernel
theorem d30_57 : decode B30 57 = .ok (.ishl, 1) := by decide +kernel
theorem d30_58 : decode B30 58 = .ok (.ireturn, 1) := by decide +kernel
theorem own_pn_java_lang_StringUTF16 : plainName "java/lang/StringUTF16" = true := by first | (simp [plainName, overriddenIn]; done) | decide +kernel
theorem own_ef_own_nbl1 (m : MethodId) : entryFrame m #[.int 1] 1 = mkF m 0 #[vI 1] [] := by first | (simp [entryFrame, mkF, argsToLocals, Value.category]; done) | rfl
def Q_own_nbl1 (Z : State) (h0 : Heap) (n0 : Nat) (v : Option Value) (h : Heap) (L : List Loc) : Prop := Fr n0 L ∧ h = h0 ∧ v = some (.int 2)
theorem own_nbl1 (l : Launch) (Z : State) (a0 : Array Value) (hw : ∀ d ∈ tables_1, d.before a0 Z = true) (ws : List Jvm.Cond) (h0 : Heap) (n0 : Nat) (O0 : Old Z n0 h0) : own_Met l Z (⟨"java/lang/StringUTF16", "newBytesLength", "(I)I"⟩ : MethodName) jdk_52_method_3_code 1 (some .int) ws ({ frames := 0, cells := 0, slots := 0, locals := 0 } : Room) #[.int 1] h0 (Q_own_nbl1 Z h0 n0) := by
  refine own_mk (plainFor_of_name own_pn_java_lang_StringUTF16) O0 ?_
  intro p e s m below meth c s₁ hx hby hml hZ hown hnm hlk hret X0 e0 N0 z0 z1
  refine own_cast (own_ef_own_nbl1 m) ?_
  show own_Goes p e below (s₁.setTop (mkF m 0 #[vI 1] [])) _
  refine q_iloadN X0 hx hby d30_0 rfl ?_
  refine q_ifYes (pc := 1) X0 hx hby d30_1 (pc' := 12) ((if0 _ _).trans (flt (show ¬ ((1 : Int32) < (0 : Int32)) from by decide)).2.1) (by decide) (by decide) ?_
  refine q_iloadN X0 hx hby d30_12 rfl ?_
  refine gg (fun t k => Jvm.Stand.ldcI X0 hx hown (mv hZ (wh hw 161 rfl)) rfl (hb hby d30_13) k) ?_
  refine q_icmpYes (pc := 15) X0 hx hby d30_15 (pc' := 55) (tlt (show ((1 : Int32) < (1073741823 : Int32)) from by decide)).1 (by decide) (by decide) ?_
  refine q_iloadN X0 hx hby d30_55 rfl ?_
  refine q_iconst X0 hx hby d30_56 ?_
  refine gg (fun t k => XS.ishl X0.here hx rfl (hb hby d30_57) rfl k) ?_
  show own_Goes p e below (s₁.setTop (mkF m 58 #[vI 1] [(.int ((1 : Int32) <<< ((1 : Int32) &&& 31)))])) _
  rw [show ((1 : Int32) <<< ((1 : Int32) &&& 31)) = (2 : Int32) from by decide]
  refine r_I X0 hx hby hret hlk d30_58 e0 ?_
  exact ⟨N0, rfl, rfl⟩
theorem d29_0 : decode B29 0 = .ok (.iload_n 0, 1) := by decide +kernel
theorem d29_1 : decode B29 1 = .ok (.invokestatic 11, 3) := by decide +kernel
theorem own_pd_0 : parseMethodDescriptor "(I)I" = some ⟨[.int], some .int⟩ := by decide +kernel
theorem d29_4 : decode B29 4 = .ok (.newarray .byte, 2) := by decide +kernel
theorem d29_6 : decode B29 6 = .ok (.areturn, 1) := by decide +kernel
theorem own_ef_own_nbf1 (m : MethodId) : entryFrame m #[.int 1] 1 = mkF m 0 #[vI 1] [] := by first | (simp [entryFrame, mkF, argsToLocals, Value.category]; done) | rfl
def Q_own_nbf1 (Z : State) (h0 : Heap) (n0 : Nat) (v : Option Value) (h : Heap) (L : List Loc) : Prop := Fr n0 L ∧ Keep h0 h [] ∧ ∃ (r : Addr), ∃ (rk : ClassId), v = some (.ref r) ∧ Arv Z h r rk .byte (2 : Int32) [.int 0, .int 0] (.int 0) ∧ h0.size ≤ r
theorem own_nbf1 (l : Launch) (Z : State) (a0 : Array Value) (hw : ∀ d ∈ tables_1, d.before a0 Z = true) (ws : List Jvm.Cond) (h0 : Heap) (n0 : Nat) (O0 : Old Z n0 h0) : own_Met l Z (⟨"java/lang/StringUTF16", "newBytesFor", "(I)[B"⟩ : MethodName) jdk_52_method_2_code 1 (some (.array .byte)) ws ({ frames := 1, cells := 1, slots := 2, locals := 12 } : Room) #[.int 1] h0 (Q_own_nbf1 Z h0 n0) := by
  refine own_mk (plainFor_of_name own_pn_java_lang_StringUTF16) O0 ?_
  intro p e s m below meth c s₁ hx hby hml hZ hown hnm hlk hret X0 e0 N0 z0 z1
  have K0 : Keep h0 h0 [] := Keep.refl _ _
  refine own_cast (own_ef_own_nbf1 m) ?_
  show own_Goes p e below (s₁.setTop (mkF m 0 #[vI 1] [])) _
  refine q_iloadN X0 hx hby d29_0 rfl ?_
  refine k_S X0 hx hby hZ hown (wh hw 158 rfl) (wh hw 159 rfl) (W := 0) (own_nbl1 l Z a0 hw []  h0 n0 O0) (wh hw 160 rfl) (wh hw 29 rfl) e0  hml (argsL := [.int 1]) (rest := []) own_pd_0 d29_1 (fun _ T1 L1 X1 hQ1 => ?_)
  obtain ⟨Nc1, e1, rfl⟩ := hQ1
  have N1 := Fr.app N0 Nc1
  obtain ⟨T2, h2, k2, X2, e2, E2, A2, st2⟩ := newP X1 hx hZ (wh hw 19 rfl) e1 (g := (mkF m 4 #[vI 1] [.int 2])) rfl (hb hby d29_4) rfl (by decide) (cap := 2) (by decide) (by decide) (by decide) (by decide)
  obtain ⟨b2, g2⟩ : ∃ z, z = h0.size := ⟨_, rfl⟩
  rw [← g2] at A2 st2
  refine gg st2 ?_
  have O3 := O0.ext E2
  have sz4 : h0.size ≤ h2.size := E2.1
  have K5 := K0.ext E2
  have l2 : @LT.lt Nat _ b2 h2.size := A2.lt
  have V2 : Arv Z h2 b2 k2 .byte (2 : Int32) [.int 0, .int 0] (.int 0) := (Arv.new A2 (by decide)).pad (pad_rep [] (.int 0) 2)
  refine r_R X2 hx hby hret hlk d29_6 e2 ?_
  exact ⟨N1, K5, b2, k2, rfl, V2, (show h0.size ≤ b2 by first | assumption | omega | decide)⟩
theorem d31_0 : decode B31 0 = .ok (.getstatic 44, 3) := by decide +kernel
theorem d31_3 : decode B31 3 = .ok (.ifCond .ne 25, 3) := by decide +kernel
theorem d31_28 : decode B31 28 = .ok (.iload_n 1, 1) := by decide +kernel
theorem d31_29 : decode B31 29 = .ok (.iconst 1, 1) := by decide +kernel
theorem d31_30 : decode B31 30 = .ok (.ishl, 1) := by decide +kernel
theorem d31_31 : decode B31 31 = .ok (.istore_n 1, 1) := by decide +kernel
theorem d31_32 : decode B31 32 = .ok (.aload_n 0, 1) := by decide +kernel
theorem d31_33 : decode B31 33 = .ok (.iload_n 1, 1) := by decide +kernel
theorem d31_34 : decode B31 34 = .ok (.iinc 1 1, 3) := by decide +kernel
theorem d31_37 : decode B31 37 = .ok (.iload_n 2, 1) := by decide +kernel
theorem d31_38 : decode B31 38 = .ok (.getstatic 59, 3) := by decide +kernel
theorem d31_41 : decode B31 41 = .ok (.ishr, 1) := by decide +kernel
theorem d31_42 : decode B31 42 = .ok (.i2b, 1) := by decide +kernel
theorem d31_43 : decode B31 43 = .ok (.bastore, 1) := by decide +kernel
theorem d31_44 : decode B31 44 = .ok (.aload_n 0, 1) := by decide +kernel
theorem d31_45 : decode B31 45 = .ok (.iload_n 1, 1) := by decide +kernel
theorem d31_46 : decode B31 46 = .ok (.iload_n 2, 1) := by decide +kernel
theorem d31_47 : decode B31 47 = .ok (.getstatic 63, 3) := by decide +kernel
theorem d31_50 : decode B31 50 = .ok (.ishr, 1) := by decide +kernel
theorem d31_51 : decode B31 51 = .ok (.i2b, 1) := by decide +kernel
theorem d31_52 : decode B31 52 = .ok (.bastore, 1) := by decide +kernel
theorem d31_53 : decode B31 53 = .ok (.return_, 1) := by decide +kernel
theorem own_ef_own_pc1_0 (m : MethodId) (xb : Addr) (xi : Int32) : entryFrame m #[.ref xb, .int 0, .int xi] 3 = mkF m 0 #[vR xb, vI 0, vI xi] [] := by first | (simp [entryFrame, mkF, argsToLocals, Value.category]; done) | rfl
def Q_own_pc1_0 (Z : State) (xb : Addr) (xq : ClassId) (xi : Int32) (y0 : Int32) (y1 : Int32) (gz : Int32) (gfm : Value) (gwC : Addr) (gwM : Addr) (h0 : Heap) (n0 : Nat) (v : Option Value) (h : Heap) (L : List Loc) : Prop := Fr n0 L ∧ Keep h0 h [xb] ∧ v = none ∧ Arv Z h xb xq .byte (2 : Int32) [(.int (xi.toInt8.toInt32)), (.int ((xi >>> ((8 : Int32) &&& 31)).toInt8.toInt32))] (.int 0)
theorem own_pc1_0 (l : Launch) (Z : State) (a0 : Array Value) (hw : ∀ d ∈ tables_1, d.before a0 Z = true) (ws : List Jvm.Cond) (xb : Addr) (xq : ClassId) (xi : Int32) (y0 : Int32) (y1 : Int32) (h0 : Heap) (n0 : Nat) (O0 : Old Z n0 h0) (gz : Int32) (gfm : Value) (gwC : Addr) (gwM : Addr) (G : GG Z gz gfm gwC gwM) (P0 : Arv Z h0 xb xq .byte (2 : Int32) [.int y0, .int y1] (.int 0)) (P1 : n0 ≤ xb) : own_Met l Z (⟨"java/lang/StringUTF16", "putChar", "([BII)V"⟩ : MethodName) jdk_52_method_4_code 3 none ws ({ frames := 0, cells := 0, slots := 0, locals := 0 } : Room) #[.ref xb, .int 0, .int xi] h0 (Q_own_pc1_0 Z xb xq xi y0 y1 gz gfm gwC gwM h0 n0) := by
  refine own_mk (plainFor_of_name own_pn_java_lang_StringUTF16) O0 ?_
  intro p e s m below meth c s₁ hx hby hml hZ hown hnm hlk hret X0 e0 N0 z0 z1
  have K0 : Keep h0 h0 [xb] := Keep.refl _ _
  refine own_cast (own_ef_own_pc1_0 m xb xi) ?_
  show own_Goes p e below (s₁.setTop (mkF m 0 #[vR xb, vI 0, vI xi] [])) _
  obtain ⟨G0, G1, G2, G3, G4, G5, G6, G7, G8, G9, G10, G11⟩ := id G
  have ltG8 : @LT.lt Nat _ gwC Z.heap.size := G8.lt
  have ltG10 : @LT.lt Nat _ gwM Z.heap.size := G10.lt
  have ltP0 : @LT.lt Nat _ xb h0.size := P0.lt
  have q1 := G2.ext O0.2
  refine qS X0 hx hby hZ hown (host := "") (Or.inl (wh hw 165 rfl)) Via.refl e0 q1 d31_0 (fun T2 X2 e2 => ?_)
  refine q_ifYes (pc := 3) X2 hx hby d31_3 (pc' := 28) ((if0 _ _).trans (feq (show ¬ ((1 : Int32) = (0 : Int32)) from by decide)).2) (by decide) (by decide) ?_
  refine q_iloadN X2 hx hby d31_28 rfl ?_
  refine q_iconst X2 hx hby d31_29 ?_
  refine gg (fun t k => XS.ishl X2.here hx rfl (hb hby d31_30) rfl k) ?_
  show own_Goes p e below (T2.setTop (mkF m 31 #[vR xb, vI 0, vI xi] [(.int ((0 : Int32) <<< ((1 : Int32) &&& 31)))])) _
  rw [show ((0 : Int32) <<< ((1 : Int32) &&& 31)) = (0 : Int32) from by decide]
  refine q_istoreN X2 hx hby d31_31 (l' := #[vR xb, vI 0, vI xi]) rfl ?_
  refine q_aloadN X2 hx hby d31_32 rfl rfl ?_
  refine q_iloadN X2 hx hby d31_33 rfl ?_
  refine gg (fun t k => XS.iinc X2.here hx rfl (hb hby d31_34) rfl (l' := #[vR xb, vI ((0 : Int32) + (1 : Int32)), vI xi]) rfl k) ?_
  show own_Goes p e below (T2.setTop (mkF m 37 #[vR xb, vI ((0 : Int32) + (1 : Int32)), vI xi] [.int 0, .ref xb])) _
  rw [show ((0 : Int32) + (1 : Int32)) = (1 : Int32) from by decide]
  refine q_iloadN X2 hx hby d31_37 rfl ?_
  have q3 := G3.ext O0.2
  refine qS X2 hx hby hZ hown (host := "") (Or.inl (wh hw 166 rfl)) Via.refl e2 q3 d31_38 (fun T4 X4 e4 => ?_)
  refine gg (fun t k => XS.ishr X4.here hx rfl (hb hby d31_41) rfl k) ?_
  show own_Goes p e below (T4.setTop (mkF m 42 #[vR xb, vI 1, vI xi] [(.int (xi >>> ((0 : Int32) &&& 31))), .int 0, .ref xb])) _
  rw [show (xi >>> ((0 : Int32) &&& 31)) = xi from own_sh0 xi]
  refine gg (fun t k => XS.i2b X4.here hx rfl (hb hby d31_42) rfl k) ?_
  refine q_stB X4 hx hby hZ e4 P0 0 d31_43 (fun T6 h6 X6 e6 W6 V6 => ?_)
  have O7 := O0.wr W6 (show n0 ≤ xb by omega)
  have sz8 : h6.size = h0.size := Wr.size W6
  have K9 := K0.wr W6 (Or.inl (List.mem_of_getElem? (i := 0) rfl))
  have N6 := Fr.snoc X6 N0 (show n0 ≤ xb by omega)
  have V6 : Arv Z h6 xb xq .byte (2 : Int32) [(.int ((xi.toInt8.toInt32).toInt8.toInt32)), .int y1] (.int 0) := V6
  rw [show ((xi.toInt8.toInt32).toInt8.toInt32) = (xi.toInt8.toInt32) from own_i8i8 _] at V6
  refine q_aloadN X6 hx hby d31_44 rfl rfl ?_
  refine q_iloadN X6 hx hby d31_45 rfl ?_
  refine q_iloadN X6 hx hby d31_46 rfl ?_
  have q10 := G4.ext O7.2
  refine qS X6 hx hby hZ hown (host := "") (Or.inl (wh hw 167 rfl)) Via.refl e6 q10 d31_47 (fun T11 X11 e11 => ?_)
  refine gg (fun t k => XS.ishr X11.here hx rfl (hb hby d31_50) rfl k) ?_
  refine gg (fun t k => XS.i2b X11.here hx rfl (hb hby d31_51) rfl k) ?_
  refine q_stB X11 hx hby hZ e11 V6 1 d31_52 (fun T13 h13 X13 e13 W13 V13 => ?_)
  have O14 := O7.wr W13 (show n0 ≤ xb by omega)
  have sz15 : h13.size = h6.size := Wr.size W13
  have K16 := K9.wr W13 (Or.inl (List.mem_of_getElem? (i := 0) rfl))
  have N13 := Fr.snoc X13 N6 (show n0 ≤ xb by omega)
  have V13 : Arv Z h13 xb xq .byte (2 : Int32) [(.int (xi.toInt8.toInt32)), (.int (((xi >>> ((8 : Int32) &&& 31)).toInt8.toInt32).toInt8.toInt32))] (.int 0) := V13
  rw [show (((xi >>> ((8 : Int32) &&& 31)).toInt8.toInt32).toInt8.toInt32) = ((xi >>> ((8 : Int32) &&& 31)).toInt8.toInt32) from own_i8i8 _] at V13
  refine r_V X13 hx hby hret hlk d31_53 e13 ?_
  exact ⟨N13, K16, rfl, V13⟩
theorem d32_0 : decode B32 0 = .ok (.getstatic 44, 3) := by decide +kernel
theorem d32_3 : decode B32 3 = .ok (.ifCond .ne 25, 3) := by decide +kernel
theorem d32_28 : decode B32 28 = .ok (.iload_n 1, 1) := by decide +kernel
theorem d32_29 : decode B32 29 = .ok (.iconst 1, 1) := by decide +kernel
theorem d32_30 : decode B32 30 = .ok (.ishl, 1) := by decide +kernel
theorem d32_31 : decode B32 31 = .ok (.istore_n 1, 1) := by decide +kernel
theorem d32_32 : decode B32 32 = .ok (.aload_n 0, 1) := by decide +kernel
theorem d32_33 : decode B32 33 = .ok (.iload_n 1, 1) := by decide +kernel
theorem d32_34 : decode B32 34 = .ok (.iinc 1 1, 3) := by decide +kernel
theorem d32_37 : decode B32 37 = .ok (.baload, 1) := by decide +kernel
theorem d32_38 : decode B32 38 = .ok (.sipush 255, 3) := by decide +kernel
theorem d32_41 : decode B32 41 = .ok (.iand, 1) := by decide +kernel
theorem d32_42 : decode B32 42 = .ok (.getstatic 59, 3) := by decide +kernel
theorem d32_45 : decode B32 45 = .ok (.ishl, 1) := by decide +kernel
theorem d32_46 : decode B32 46 = .ok (.aload_n 0, 1) := by decide +kernel
theorem d32_47 : decode B32 47 = .ok (.iload_n 1, 1) := by decide +kernel
theorem d32_48 : decode B32 48 = .ok (.baload, 1) := by decide +kernel
theorem d32_49 : decode B32 49 = .ok (.sipush 255, 3) := by decide +kernel
theorem d32_52 : decode B32 52 = .ok (.iand, 1) := by decide +kernel
theorem d32_53 : decode B32 53 = .ok (.getstatic 63, 3) := by decide +kernel
theorem d32_56 : decode B32 56 = .ok (.ishl, 1) := by decide +kernel
theorem d32_57 : decode B32 57 = .ok (.ior, 1) := by decide +kernel
theorem d32_58 : decode B32 58 = .ok (.i2c, 1) := by decide +kernel
theorem d32_59 : decode B32 59 = .ok (.ireturn, 1) := by decide +kernel
theorem own_ef_own_gc1_0 (m : MethodId) (xb : Addr) : entryFrame m #[.ref xb, .int 0] 2 = mkF m 0 #[vR xb, vI 0] [] := by first | (simp [entryFrame, mkF, argsToLocals, Value.category]; done) | rfl
def Q_own_gc1_0 (Z : State) (xb : Addr) (xq : ClassId) (y0 : Int32) (y1 : Int32) (gz : Int32) (gfm : Value) (gwC : Addr) (gwM : Addr) (h0 : Heap) (n0 : Nat) (v : Option Value) (h : Heap) (L : List Loc) : Prop := Fr n0 L ∧ h = h0 ∧ v = some (.int ((((y0 &&& (255 : Int32)) <<< ((0 : Int32) &&& 31)) ||| ((y1 &&& (255 : Int32)) <<< ((8 : Int32) &&& 31))).toUInt32.toUInt16.toUInt32.toInt32))
theorem own_gc1_0 (l : Launch) (Z : State) (a0 : Array Value) (hw : ∀ d ∈ tables_1, d.before a0 Z = true) (ws : List Jvm.Cond) (xb : Addr) (xq : ClassId) (y0 : Int32) (y1 : Int32) (h0 : Heap) (n0 : Nat) (O0 : Old Z n0 h0) (gz : Int32) (gfm : Value) (gwC : Addr) (gwM : Addr) (G : GG Z gz gfm gwC gwM) (P0 : Arv Z h0 xb xq .byte (2 : Int32) [.int y0, .int y1] (.int 0)) : own_Met l Z (⟨"java/lang/StringUTF16", "getChar", "([BI)C"⟩ : MethodName) jdk_52_method_5_code 2 (some .char) ws ({ frames := 0, cells := 0, slots := 0, locals := 0 } : Room) #[.ref xb, .int 0] h0 (Q_own_gc1_0 Z xb xq y0 y1 gz gfm gwC gwM h0 n0) := by
  refine own_mk (plainFor_of_name own_pn_java_lang_StringUTF16) O0 ?_
  intro p e s m below meth c s₁ hx hby hml hZ hown hnm hlk hret X0 e0 N0 z0 z1
  refine own_cast (own_ef_own_gc1_0 m xb) ?_
  show own_Goes p e below (s₁.setTop (mkF m 0 #[vR xb, vI 0] [])) _
  obtain ⟨G0, G1, G2, G3, G4, G5, G6, G7, G8, G9, G10, G11⟩ := id G
  have ltG8 : @LT.lt Nat _ gwC Z.heap.size := G8.lt
  have ltG10 : @LT.lt Nat _ gwM Z.heap.size := G10.lt
  have ltP0 : @LT.lt Nat _ xb h0.size := P0.lt
  have q1 := G2.ext O0.2
  refine qS X0 hx hby hZ hown (host := "") (Or.inl (wh hw 165 rfl)) Via.refl e0 q1 d32_0 (fun T2 X2 e2 => ?_)
  refine q_ifYes (pc := 3) X2 hx hby d32_3 (pc' := 28) ((if0 _ _).trans (feq (show ¬ ((1 : Int32) = (0 : Int32)) from by decide)).2) (by decide) (by decide) ?_
  refine q_iloadN X2 hx hby d32_28 rfl ?_
  refine q_iconst X2 hx hby d32_29 ?_
  refine gg (fun t k => XS.ishl X2.here hx rfl (hb hby d32_30) rfl k) ?_
  show own_Goes p e below (T2.setTop (mkF m 31 #[vR xb, vI 0] [(.int ((0 : Int32) <<< ((1 : Int32) &&& 31)))])) _
  rw [show ((0 : Int32) <<< ((1 : Int32) &&& 31)) = (0 : Int32) from by decide]
  refine q_istoreN X2 hx hby d32_31 (l' := #[vR xb, vI 0]) rfl ?_
  refine q_aloadN X2 hx hby d32_32 rfl rfl ?_
  refine q_iloadN X2 hx hby d32_33 rfl ?_
  refine gg (fun t k => XS.iinc X2.here hx rfl (hb hby d32_34) rfl (l' := #[vR xb, vI ((0 : Int32) + (1 : Int32))]) rfl k) ?_
  show own_Goes p e below (T2.setTop (mkF m 37 #[vR xb, vI ((0 : Int32) + (1 : Int32))] [.int 0, .ref xb])) _
  rw [show ((0 : Int32) + (1 : Int32)) = (1 : Int32) from by decide]
  refine q_baloadBytes X2 hx hby hZ e2 P0 d32_37 (.int y0) ?_
  refine q_sipush X2 hx hby d32_38 ?_
  refine q_iand X2 hx hby d32_41 ?_
  have q4 := G3.ext O0.2
  refine qS X2 hx hby hZ hown (host := "") (Or.inl (wh hw 166 rfl)) Via.refl e2 q4 d32_42 (fun T5 X5 e5 => ?_)
  refine gg (fun t k => XS.ishl X5.here hx rfl (hb hby d32_45) rfl k) ?_
  refine q_aloadN X5 hx hby d32_46 rfl rfl ?_
  refine q_iloadN X5 hx hby d32_47 rfl ?_
  refine q_baloadBytes X5 hx hby hZ e5 P0 d32_48 (.int y1) ?_
  refine q_sipush X5 hx hby d32_49 ?_
  refine q_iand X5 hx hby d32_52 ?_
  have q7 := G4.ext O0.2
  refine qS X5 hx hby hZ hown (host := "") (Or.inl (wh hw 167 rfl)) Via.refl e5 q7 d32_53 (fun T8 X8 e8 => ?_)
  refine gg (fun t k => XS.ishl X8.here hx rfl (hb hby d32_56) rfl k) ?_
  refine gg (fun t k => XS.ior X8.here hx rfl (hb hby d32_57) rfl k) ?_
  refine gg (fun t k => XS.i2c X8.here hx rfl (hb hby d32_58) rfl k) ?_
  show own_Goes p e below (T8.setTop (mkF m 59 #[vR xb, vI 1] [(.int ((((y0 &&& (255 : Int32)) <<< ((0 : Int32) &&& 31)) ||| ((y1 &&& (255 : Int32)) <<< ((8 : Int32) &&& 31))).toUInt32.toUInt16.toUInt32.toInt32))])) _
  refine r_C X8 hx hby hret hlk d32_59 e8 ?_ (hn := (own_narr16 (own_C16i _)))
  exact ⟨N0, rfl, rfl⟩
theorem d28_0 : decode B28 0 = .ok (.iload_n 2, 1) := by decide +kernel
theorem d28_1 : decode B28 1 = .ok (.invokestatic 107, 3) := by decide +kernel
theorem own_pd_1 : parseMethodDescriptor "(I)[B" = some ⟨[.int], some (.array .byte)⟩ := by decide +kernel
theorem d28_4 : decode B28 4 = .ok (.astore_n 3, 1) := by decide +kernel
theorem d28_5 : decode B28 5 = .ok (.iconst 0, 1) := by decide +kernel
theorem d28_6 : decode B28 6 = .ok (.istore 4, 2) := by decide +kernel
theorem d28_8 : decode B28 8 = .ok (.iload 4, 2) := by decide +kernel
theorem d28_10 : decode B28 10 = .ok (.iload_n 2, 1) := by decide +kernel
theorem d28_11 : decode B28 11 = .ok (.if_icmp .ge 21, 3) := by decide +kernel
theorem d28_14 : decode B28 14 = .ok (.aload_n 3, 1) := by decide +kernel
theorem d28_15 : decode B28 15 = .ok (.iload 4, 2) := by decide +kernel
theorem d28_17 : decode B28 17 = .ok (.aload_n 0, 1) := by decide +kernel
theorem d28_18 : decode B28 18 = .ok (.iload_n 1, 1) := by decide +kernel
theorem d28_19 : decode B28 19 = .ok (.caload, 1) := by decide +kernel
theorem d28_20 : decode B28 20 = .ok (.invokestatic 111, 3) := by decide +kernel
theorem own_pd_2 : parseMethodDescriptor "([BII)V" = some ⟨[(.array .byte), .int, .int], none⟩ := by decide +kernel
theorem d28_23 : decode B28 23 = .ok (.iinc 1 1, 3) := by decide +kernel
theorem d28_26 : decode B28 26 = .ok (.iinc 4 1, 3) := by decide +kernel
theorem d28_29 : decode B28 29 = .ok (.goto (-21), 3) := by decide +kernel
theorem d28_32 : decode B28 32 = .ok (.aload_n 3, 1) := by decide +kernel
theorem d28_33 : decode B28 33 = .ok (.areturn, 1) := by decide +kernel
theorem own_ef_own_toBy1 (m : MethodId) (xc : Addr) : entryFrame m #[.ref xc, .int 0, .int 1] 5 = mkF m 0 #[vR xc, vI 0, vI 1, uS, uS] [] := by first | (simp [entryFrame, mkF, argsToLocals, Value.category]; done) | rfl
def Q_own_toBy1 (Z : State) (xc : Addr) (xk : ClassId) (c0 : Int32) (gz : Int32) (gfm : Value) (gwC : Addr) (gwM : Addr) (h0 : Heap) (n0 : Nat) (v : Option Value) (h : Heap) (L : List Loc) : Prop := Fr n0 L ∧ Keep h0 h [] ∧ ∃ (r : Addr), ∃ (rk : ClassId), v = some (.ref r) ∧ Arv Z h r rk .byte (2 : Int32) [(.int (c0.toInt8.toInt32)), (.int ((c0 >>> ((8 : Int32) &&& 31)).toInt8.toInt32))] (.int 0) ∧ h0.size ≤ r
theorem own_toBy1 (l : Launch) (Z : State) (a0 : Array Value) (hw : ∀ d ∈ tables_1, d.before a0 Z = true) (ws : List Jvm.Cond) (xc : Addr) (xk : ClassId) (c0 : Int32) (h0 : Heap) (n0 : Nat) (O0 : Old Z n0 h0) (gz : Int32) (gfm : Value) (gwC : Addr) (gwM : Addr) (G : GG Z gz gfm gwC gwM) (P0 : Arv Z h0 xc xk .char (1 : Int32) [.int c0] (.int 0)) : own_Met l Z (⟨"java/lang/StringUTF16", "toBytes", "([CII)[B"⟩ : MethodName) jdk_52_method_14_code 5 (some (.array .byte)) ws ({ frames := 2, cells := 1, slots := 2, locals := 24 } : Room) #[.ref xc, .int 0, .int 1] h0 (Q_own_toBy1 Z xc xk c0 gz gfm gwC gwM h0 n0) := by
  refine own_mk (plainFor_of_name own_pn_java_lang_StringUTF16) O0 ?_
  intro p e s m below meth c s₁ hx hby hml hZ hown hnm hlk hret X0 e0 N0 z0 z1
  have K0 : Keep h0 h0 [] := Keep.refl _ _
  refine own_cast (own_ef_own_toBy1 m xc) ?_
  show own_Goes p e below (s₁.setTop (mkF m 0 #[vR xc, vI 0, vI 1, uS, uS] [])) _
  obtain ⟨G0, G1, G2, G3, G4, G5, G6, G7, G8, G9, G10, G11⟩ := id G
  have ltG8 : @LT.lt Nat _ gwC Z.heap.size := G8.lt
  have ltG10 : @LT.lt Nat _ gwM Z.heap.size := G10.lt
  have ltP0 : @LT.lt Nat _ xc h0.size := P0.lt
  refine q_iloadN X0 hx hby d28_0 rfl ?_
  refine k_S X0 hx hby hZ hown (wh hw 155 rfl) (wh hw 156 rfl) (W := 0) (own_nbf1 l Z a0 hw []  h0 n0 O0) (wh hw 157 rfl) (wh hw 29 rfl) e0  hml (argsL := [.int 1]) (rest := []) own_pd_1 d28_1 (fun _ T1 L1 X1 hQ1 => ?_)
  obtain ⟨h1, e1⟩ : ∃ z, T1.heap = z := ⟨_, rfl⟩
  rw [e1] at hQ1
  obtain ⟨Nc1, Kc1, r_1, rk_1, rfl, c1_0, c1_1⟩ := hQ1
  have N1 := Fr.app N0 Nc1
  have O2 := O0.keep Kc1 all0
  have sz3 : h0.size ≤ h1.size := Kc1.1
  have K4 := Keep.trans K0 Kc1 all0
  have ltc1_0 : @LT.lt Nat _ r_1 h1.size := c1_0.lt
  refine q_astoreN X1 hx hby d28_4 rfl (l' := #[vR xc, vI 0, vI 1, vR r_1, uS]) rfl ?_
  refine q_iconst X1 hx hby d28_5 ?_
  refine q_istore X1 hx hby d28_6 (l' := #[vR xc, vI 0, vI 1, vR r_1, vI 0]) rfl ?_
  refine q_iload X1 hx hby d28_8 rfl ?_
  refine q_iloadN X1 hx hby d28_10 rfl ?_
  refine q_icmpNo X1 hx hby d28_11 (tlt (show ((0 : Int32) < (1 : Int32)) from by decide)).2.1 ?_
  refine q_aloadN X1 hx hby d28_14 rfl rfl ?_
  refine q_iload X1 hx hby d28_15 rfl ?_
  refine q_aloadN X1 hx hby d28_17 rfl rfl ?_
  refine q_iloadN X1 hx hby d28_18 rfl ?_
  have f5 := (P0.keep Kc1 nin0)
  refine q_caload X1 hx hby hZ e1 f5 d28_19 (.int c0) ?_
  refine k_S X1 hx hby hZ hown (wh hw 162 rfl) (wh hw 163 rfl) (W := 0) (own_pc1_0 l Z a0 hw [] r_1 rk_1 c0 (0 : Int32) (0 : Int32) h1 n0 O2 gz gfm gwC gwM G c1_0 (show n0 ≤ r_1 by first | assumption | omega | decide)) (wh hw 164 rfl) (wh hw 29 rfl) e1  hml (argsL := [.ref r_1, .int 0, .int c0]) (rest := []) own_pd_2 d28_20 (fun _ T7 L7 X7 hQ7 => ?_)
  obtain ⟨h7, e7⟩ : ∃ z, T7.heap = z := ⟨_, rfl⟩
  rw [e7] at hQ7
  obtain ⟨Nc7, Kc7, rfl, c7_0⟩ := hQ7
  have N7 := Fr.app N1 Nc7
  have O8 := O2.keep Kc7 (allS (show n0 ≤ r_1 by omega) all0)
  have sz9 : h1.size ≤ h7.size := Kc7.1
  have K10 := Keep.trans K4 Kc7 (allS (Or.inr (show h0.size ≤ r_1 by omega)) all0)
  have ltc7_0 : @LT.lt Nat _ r_1 h7.size := c7_0.lt
  show own_Goes p e below (T7.setTop (mkF m 23 #[vR xc, vI 0, vI 1, vR r_1, vI 0] [])) _
  refine gg (fun t k => XS.iinc X7.here hx rfl (hb hby d28_23) rfl (l' := #[vR xc, vI ((0 : Int32) + (1 : Int32)), vI 1, vR r_1, vI 0]) rfl k) ?_
  show own_Goes p e below (T7.setTop (mkF m 26 #[vR xc, vI ((0 : Int32) + (1 : Int32)), vI 1, vR r_1, vI 0] [])) _
  rw [show ((0 : Int32) + (1 : Int32)) = (1 : Int32) from by decide]
  refine gg (fun t k => XS.iinc X7.here hx rfl (hb hby d28_26) rfl (l' := #[vR xc, vI 1, vI 1, vR r_1, vI ((0 : Int32) + (1 : Int32))]) rfl k) ?_
  show own_Goes p e below (T7.setTop (mkF m 29 #[vR xc, vI 1, vI 1, vR r_1, vI ((0 : Int32) + (1 : Int32))] [])) _
  rw [show ((0 : Int32) + (1 : Int32)) = (1 : Int32) from by decide]
  refine q_goto (pc := 29) X7 hx hby d28_29 (pc' := 8) (by decide) (by decide) ?_
  refine q_iload X7 hx hby d28_8 rfl ?_
  refine q_iloadN X7 hx hby d28_10 rfl ?_
  refine q_icmpYes (pc := 11) X7 hx hby d28_11 (pc' := 32) (flt (show ¬ ((1 : Int32) < (1 : Int32)) from by decide)).2.1 (by decide) (by decide) ?_
  refine q_aloadN X7 hx hby d28_32 rfl rfl ?_
  refine r_R X7 hx hby hret hlk d28_33 e7 ?_
  exact ⟨N7, K10, r_1, rk_1, rfl, c7_0, (show h0.size ≤ r_1 by first | assumption | omega | decide)⟩
theorem d6_0 : decode B6 0 = .ok (.iconst 0, 1) := by decide +kernel
theorem d6_1 : decode B6 1 = .ok (.istore 5, 2) := by decide +kernel
theorem d6_3 : decode B6 3 = .ok (.iload 5, 2) := by decide +kernel
theorem d6_5 : decode B6 5 = .ok (.iload 4, 2) := by decide +kernel
theorem d6_7 : decode B6 7 = .ok (.if_icmp .ge 37, 3) := by decide +kernel
theorem d6_10 : decode B6 10 = .ok (.aload_n 0, 1) := by decide +kernel
theorem d6_11 : decode B6 11 = .ok (.iload_n 1, 1) := by decide +kernel
theorem d6_12 : decode B6 12 = .ok (.caload, 1) := by decide +kernel
theorem d6_13 : decode B6 13 = .ok (.istore 6, 2) := by decide +kernel
theorem d6_15 : decode B6 15 = .ok (.iload 6, 2) := by decide +kernel
theorem d6_17 : decode B6 17 = .ok (.sipush 255, 3) := by decide +kernel
theorem d6_20 : decode B6 20 = .ok (.if_icmp .le 6, 3) := by decide +kernel
theorem d6_23 : decode B6 23 = .ok (.iload 5, 2) := by decide +kernel
theorem d6_25 : decode B6 25 = .ok (.ireturn, 1) := by decide +kernel
theorem d6_26 : decode B6 26 = .ok (.aload_n 2, 1) := by decide +kernel
theorem d6_27 : decode B6 27 = .ok (.iload_n 3, 1) := by decide +kernel
theorem d6_28 : decode B6 28 = .ok (.iload 6, 2) := by decide +kernel
theorem d6_30 : decode B6 30 = .ok (.i2b, 1) := by decide +kernel
theorem d6_31 : decode B6 31 = .ok (.bastore, 1) := by decide +kernel
theorem d6_32 : decode B6 32 = .ok (.iinc 1 1, 3) := by decide +kernel
theorem d6_35 : decode B6 35 = .ok (.iinc 3 1, 3) := by decide +kernel
theorem d6_38 : decode B6 38 = .ok (.iinc 5 1, 3) := by decide +kernel
theorem d6_41 : decode B6 41 = .ok (.goto (-38), 3) := by decide +kernel
theorem d6_44 : decode B6 44 = .ok (.iload 4, 2) := by decide +kernel
theorem d6_46 : decode B6 46 = .ok (.ireturn, 1) := by decide +kernel
theorem own_ef_own_ci1 (m : MethodId) (xc : Addr) (xb : Addr) : entryFrame m #[.ref xc, .int 0, .ref xb, .int 0, .int 1] 7 = mkF m 0 #[vR xc, vI 0, vR xb, vI 0, vI 1, uS, uS] [] := by first | (simp [entryFrame, mkF, argsToLocals, Value.category]; done) | rfl
def Q_own_ci1 (Z : State) (xc : Addr) (xk : ClassId) (xb : Addr) (xq : ClassId) (c0 : Int32) (h0 : Heap) (n0 : Nat) (v : Option Value) (h : Heap) (L : List Loc) : Prop := Fr n0 L ∧ Keep h0 h [xb] ∧ ∃ (r : Int32), ∃ (y0 : Int32), v = some (.int r) ∧ Arv Z h xb xq .byte (1 : Int32) [.int y0] (.int 0) ∧ ((r = (1 : Int32) ∧ y0 = (c0.toInt8.toInt32) ∧ ¬ (255 : Int32) < c0) ∨ (r = (0 : Int32) ∧ (255 : Int32) < c0))
theorem own_ci1 (l : Launch) (Z : State) (a0 : Array Value) (hw : ∀ d ∈ tables_1, d.before a0 Z = true) (ws : List Jvm.Cond) (xc : Addr) (xk : ClassId) (xb : Addr) (xq : ClassId) (c0 : Int32) (h0 : Heap) (n0 : Nat) (O0 : Old Z n0 h0) (P0 : Arv Z h0 xc xk .char (1 : Int32) [.int c0] (.int 0)) (P1 : Arv Z h0 xb xq .byte (1 : Int32) [.int 0] (.int 0)) (P2 : @LT.lt Nat _ xc xb) (P3 : n0 ≤ xb) : own_Met l Z (⟨"java/lang/StringUTF16", "compress", "([CI[BII)I"⟩ : MethodName) jdk_52_method_21_code 7 (some .int) ws ({ frames := 0, cells := 0, slots := 0, locals := 0 } : Room) #[.ref xc, .int 0, .ref xb, .int 0, .int 1] h0 (Q_own_ci1 Z xc xk xb xq c0 h0 n0) := by
  refine own_mk (plainFor_of_name own_pn_java_lang_StringUTF16) O0 ?_
  intro p e s m below meth c s₁ hx hby hml hZ hown hnm hlk hret X0 e0 N0 z0 z1
  have K0 : Keep h0 h0 [xb] := Keep.refl _ _
  refine own_cast (own_ef_own_ci1 m xc xb) ?_
  show own_Goes p e below (s₁.setTop (mkF m 0 #[vR xc, vI 0, vR xb, vI 0, vI 1, uS, uS] [])) _
  have ltP0 : @LT.lt Nat _ xc h0.size := P0.lt
  have ltP1 : @LT.lt Nat _ xb h0.size := P1.lt
  refine q_iconst X0 hx hby d6_0 ?_
  refine q_istore X0 hx hby d6_1 (l' := #[vR xc, vI 0, vR xb, vI 0, vI 1, vI 0, uS]) rfl ?_
  refine q_iload X0 hx hby d6_3 rfl ?_
  refine q_iload X0 hx hby d6_5 rfl ?_
  refine q_icmpNo X0 hx hby d6_7 (tlt (show ((0 : Int32) < (1 : Int32)) from by decide)).2.1 ?_
  refine q_aloadN X0 hx hby d6_10 rfl rfl ?_
  refine q_iloadN X0 hx hby d6_11 rfl ?_
  refine q_caload X0 hx hby hZ e0 P0 d6_12 (.int c0) ?_
  refine q_istore X0 hx hby d6_13 (l' := #[vR xc, vI 0, vR xb, vI 0, vI 1, vI 0, vI c0]) rfl ?_
  refine q_iload X0 hx hby d6_15 rfl ?_
  refine q_sipush X0 hx hby d6_17 ?_
  by_cases hc2 : (255 : Int32) < c0
  · refine q_icmpNo X0 hx hby d6_20 (tlt hc2).2.2.2 ?_
    refine q_iload X0 hx hby d6_23 rfl ?_
    refine r_I X0 hx hby hret hlk d6_25 e0 ?_
    exact ⟨N0, K0, (0 : Int32), (0 : Int32), rfl, P1, (Or.inr ⟨rfl, hc2⟩)⟩
  · refine q_icmpYes (pc := 20) X0 hx hby d6_20 (pc' := 26) (flt hc2).2.2.2 (by decide) (by decide) ?_
    show own_Goes p e below (s₁.setTop (mkF m 26 #[vR xc, vI 0, vR xb, vI 0, vI 1, vI 0, vI c0] [])) _
    refine q_aloadN X0 hx hby d6_26 rfl rfl ?_
    refine q_iloadN X0 hx hby d6_27 rfl ?_
    refine q_iload X0 hx hby d6_28 rfl ?_
    refine gg (fun t k => XS.i2b X0.here hx rfl (hb hby d6_30) rfl k) ?_
    refine q_stB X0 hx hby hZ e0 P1 0 d6_31 (fun T4 h4 X4 e4 W4 V4 => ?_)
    have O5 := O0.wr W4 (show n0 ≤ xb by omega)
    have sz6 : h4.size = h0.size := Wr.size W4
    have K7 := K0.wr W4 (Or.inl (List.mem_of_getElem? (i := 0) rfl))
    have N4 := Fr.snoc X4 N0 (show n0 ≤ xb by omega)
    have V4 : Arv Z h4 xb xq .byte (1 : Int32) [(.int ((c0.toInt8.toInt32).toInt8.toInt32))] (.int 0) := V4
    rw [show ((c0.toInt8.toInt32).toInt8.toInt32) = (c0.toInt8.toInt32) from own_i8i8 _] at V4
    refine gg (fun t k => XS.iinc X4.here hx rfl (hb hby d6_32) rfl (l' := #[vR xc, vI ((0 : Int32) + (1 : Int32)), vR xb, vI 0, vI 1, vI 0, vI c0]) rfl k) ?_
    show own_Goes p e below (T4.setTop (mkF m 35 #[vR xc, vI ((0 : Int32) + (1 : Int32)), vR xb, vI 0, vI 1, vI 0, vI c0] [])) _
    rw [show ((0 : Int32) + (1 : Int32)) = (1 : Int32) from by decide]
    refine gg (fun t k => XS.iinc X4.here hx rfl (hb hby d6_35) rfl (l' := #[vR xc, vI 1, vR xb, vI ((0 : Int32) + (1 : Int32)), vI 1, vI 0, vI c0]) rfl k) ?_
    show own_Goes p e below (T4.setTop (mkF m 38 #[vR xc, vI 1, vR xb, vI ((0 : Int32) + (1 : Int32)), vI 1, vI 0, vI c0] [])) _
    rw [show ((0 : Int32) + (1 : Int32)) = (1 : Int32) from by decide]
    refine gg (fun t k => XS.iinc X4.here hx rfl (hb hby d6_38) rfl (l' := #[vR xc, vI 1, vR xb, vI 1, vI 1, vI ((0 : Int32) + (1 : Int32)), vI c0]) rfl k) ?_
    show own_Goes p e below (T4.setTop (mkF m 41 #[vR xc, vI 1, vR xb, vI 1, vI 1, vI ((0 : Int32) + (1 : Int32)), vI c0] [])) _
    rw [show ((0 : Int32) + (1 : Int32)) = (1 : Int32) from by decide]
    refine q_goto (pc := 41) X4 hx hby d6_41 (pc' := 3) (by decide) (by decide) ?_
    refine q_iload X4 hx hby d6_3 rfl ?_
    refine q_iload X4 hx hby d6_5 rfl ?_
    refine q_icmpYes (pc := 7) X4 hx hby d6_7 (pc' := 44) (flt (show ¬ ((1 : Int32) < (1 : Int32)) from by decide)).2.1 (by decide) (by decide) ?_
    refine q_iload X4 hx hby d6_44 rfl ?_
    refine r_I X4 hx hby hret hlk d6_46 e4 ?_
    exact ⟨N4, K7, (1 : Int32), (c0.toInt8.toInt32), rfl, V4, (Or.inl ⟨rfl, rfl, hc2⟩)⟩
theorem d5_0 : decode B5 0 = .ok (.iload_n 2, 1) := by decide +kernel
theorem d5_1 : decode B5 1 = .ok (.newarray .byte, 2) := by decide +kernel
theorem d5_3 : decode B5 3 = .ok (.astore_n 3, 1) := by decide +kernel
theorem d5_4 : decode B5 4 = .ok (.aload_n 0, 1) := by decide +kernel
theorem d5_5 : decode B5 5 = .ok (.iload_n 1, 1) := by decide +kernel
theorem d5_6 : decode B5 6 = .ok (.aload_n 3, 1) := by decide +kernel
theorem d5_7 : decode B5 7 = .ok (.iconst 0, 1) := by decide +kernel
theorem d5_8 : decode B5 8 = .ok (.iload_n 2, 1) := by decide +kernel
theorem d5_9 : decode B5 9 = .ok (.invokestatic 115, 3) := by decide +kernel
theorem own_pd_3 : parseMethodDescriptor "([CI[BII)I" = some ⟨[(.array .char), .int, (.array .byte), .int, .int], some .int⟩ := by decide +kernel
theorem d5_12 : decode B5 12 = .ok (.istore 4, 2) := by decide +kernel
theorem d5_14 : decode B5 14 = .ok (.iload 4, 2) := by decide +kernel
theorem d5_16 : decode B5 16 = .ok (.iload_n 2, 1) := by decide +kernel
theorem d5_17 : decode B5 17 = .ok (.if_icmp .eq 40, 3) := by decide +kernel
theorem d5_57 : decode B5 57 = .ok (.aload_n 3, 1) := by decide +kernel
theorem d5_58 : decode B5 58 = .ok (.areturn, 1) := by decide +kernel
theorem d5_20 : decode B5 20 = .ok (.aload_n 0, 1) := by decide +kernel
theorem d5_21 : decode B5 21 = .ok (.iload_n 1, 1) := by decide +kernel
theorem d5_22 : decode B5 22 = .ok (.iload_n 2, 1) := by decide +kernel
theorem d5_23 : decode B5 23 = .ok (.invokestatic 119, 3) := by decide +kernel
theorem own_pd_4 : parseMethodDescriptor "([CII)[B" = some ⟨[(.array .char), .int, .int], some (.array .byte)⟩ := by decide +kernel
theorem d5_26 : decode B5 26 = .ok (.astore 5, 2) := by decide +kernel
theorem d5_28 : decode B5 28 = .ok (.aload 5, 2) := by decide +kernel
theorem d5_30 : decode B5 30 = .ok (.iload 4, 2) := by decide +kernel
theorem d5_32 : decode B5 32 = .ok (.invokestatic 71, 3) := by decide +kernel
theorem own_pd_5 : parseMethodDescriptor "([BI)C" = some ⟨[(.array .byte), .int], some .char⟩ := by decide +kernel
theorem d5_35 : decode B5 35 = .ok (.sipush 255, 3) := by decide +kernel
theorem d5_38 : decode B5 38 = .ok (.if_icmp .gt 16, 3) := by decide +kernel
theorem d5_54 : decode B5 54 = .ok (.aload 5, 2) := by decide +kernel
theorem d5_56 : decode B5 56 = .ok (.areturn, 1) := by decide +kernel
theorem own_ef_own_co1 (m : MethodId) (xc : Addr) : entryFrame m #[.ref xc, .int 0, .int 1] 6 = mkF m 0 #[vR xc, vI 0, vI 1, uS, uS, uS] [] := by first | (simp [entryFrame, mkF, argsToLocals, Value.category]; done) | rfl
def Q_own_co1 (Z : State) (xc : Addr) (xk : ClassId) (c0 : Int32) (gz : Int32) (gfm : Value) (gwC : Addr) (gwM : Addr) (h0 : Heap) (n0 : Nat) (v : Option Value) (h : Heap) (L : List Loc) : Prop := Fr n0 L ∧ Keep h0 h [] ∧ ∃ (r : Addr), v = some (.ref r) ∧ own_Cod Z h r ([c0] : List Int32) ∧ h0.size ≤ r
theorem own_co1 (l : Launch) (Z : State) (a0 : Array Value) (hw : ∀ d ∈ tables_1, d.before a0 Z = true) (ws : List Jvm.Cond) (xc : Addr) (xk : ClassId) (c0 : Int32) (h0 : Heap) (n0 : Nat) (O0 : Old Z n0 h0) (gz : Int32) (gfm : Value) (gwC : Addr) (gwM : Addr) (G : GG Z gz gfm gwC gwM) (P0 : Arv Z h0 xc xk .char (1 : Int32) [.int c0] (.int 0)) (P1 : own_C16 c0) : own_Met l Z (⟨"java/lang/StringUTF16", "compress", "([CII)[B"⟩ : MethodName) jdk_52_method_16_code 6 (some (.array .byte)) ws ({ frames := 3, cells := 2, slots := 3, locals := 40 } : Room) #[.ref xc, .int 0, .int 1] h0 (Q_own_co1 Z xc xk c0 gz gfm gwC gwM h0 n0) := by
  refine own_mk (plainFor_of_name own_pn_java_lang_StringUTF16) O0 ?_
  intro p e s m below meth c s₁ hx hby hml hZ hown hnm hlk hret X0 e0 N0 z0 z1
  have K0 : Keep h0 h0 [] := Keep.refl _ _
  refine own_cast (own_ef_own_co1 m xc) ?_
  show own_Goes p e below (s₁.setTop (mkF m 0 #[vR xc, vI 0, vI 1, uS, uS, uS] [])) _
  obtain ⟨G0, G1, G2, G3, G4, G5, G6, G7, G8, G9, G10, G11⟩ := id G
  have ltG8 : @LT.lt Nat _ gwC Z.heap.size := G8.lt
  have ltG10 : @LT.lt Nat _ gwM Z.heap.size := G10.lt
  have ltP0 : @LT.lt Nat _ xc h0.size := P0.lt
  refine q_iloadN X0 hx hby d5_0 rfl ?_
  obtain ⟨T1, h1, k1, X1, e1, E1, A1, st1⟩ := newP X0 hx hZ (wh hw 19 rfl) e0 (g := (mkF m 1 #[vR xc, vI 0, vI 1, uS, uS, uS] [.int 1])) rfl (hb hby d5_1) rfl (by decide) (cap := 1) (by decide) (by decide) (by decide) (by decide)
  obtain ⟨b1, g1⟩ : ∃ z, z = h0.size := ⟨_, rfl⟩
  rw [← g1] at A1 st1
  refine gg st1 ?_
  have O2 := O0.ext E1
  have sz3 : h0.size ≤ h1.size := E1.1
  have K4 := K0.ext E1
  have l1 : @LT.lt Nat _ b1 h1.size := A1.lt
  have V1 : Arv Z h1 b1 k1 .byte (1 : Int32) [.int 0] (.int 0) := (Arv.new A1 (by decide)).pad (pad_rep [] (.int 0) 1)
  refine q_astoreN X1 hx hby d5_3 rfl (l' := #[vR xc, vI 0, vI 1, vR b1, uS, uS]) rfl ?_
  refine q_aloadN X1 hx hby d5_4 rfl rfl ?_
  refine q_iloadN X1 hx hby d5_5 rfl ?_
  refine q_aloadN X1 hx hby d5_6 rfl rfl ?_
  refine q_iconst X1 hx hby d5_7 ?_
  refine q_iloadN X1 hx hby d5_8 rfl ?_
  have f5 := (P0.ext E1)
  refine k_S X1 hx hby hZ hown (wh hw 31 rfl) (wh hw 32 rfl) (W := 0) (own_ci1 l Z a0 hw [] xc xk b1 k1 c0 h1 n0 O2 f5 V1 (show @LT.lt Nat _ xc b1 by first | assumption | omega | decide) (show n0 ≤ b1 by first | assumption | omega | decide)) (wh hw 33 rfl) (wh hw 29 rfl) e1  hml (argsL := [.ref xc, .int 0, .ref b1, .int 0, .int 1]) (rest := []) own_pd_3 d5_9 (fun _ T6 L6 X6 hQ6 => ?_)
  obtain ⟨h6, e6⟩ : ∃ z, T6.heap = z := ⟨_, rfl⟩
  rw [e6] at hQ6
  obtain ⟨Nc6, Kc6, r_6, y0_6, rfl, c6_0, c6_1⟩ := hQ6
  have N6 := Fr.app N0 Nc6
  have O7 := O2.keep Kc6 (allS (show n0 ≤ b1 by omega) all0)
  have sz8 : h1.size ≤ h6.size := Kc6.1
  have K9 := Keep.trans K4 Kc6 (allS (Or.inr (show h0.size ≤ b1 by omega)) all0)
  have ltc6_0 : @LT.lt Nat _ b1 h6.size := c6_0.lt
  rcases c6_1 with ⟨rfl, rfl, hq10⟩ | ⟨rfl, hq10⟩
  · show own_Goes p e below (T6.setTop (mkF m 12 #[vR xc, vI 0, vI 1, vR b1, uS, uS] [.int 1])) _
    refine q_istore X6 hx hby d5_12 (l' := #[vR xc, vI 0, vI 1, vR b1, vI 1, uS]) rfl ?_
    refine q_iload X6 hx hby d5_14 rfl ?_
    refine q_iloadN X6 hx hby d5_16 rfl ?_
    refine q_icmpYes (pc := 17) X6 hx hby d5_17 (pc' := 57) (teq (show ((1 : Int32) = (1 : Int32)) from by decide)).1 (by decide) (by decide) ?_
    refine q_aloadN X6 hx hby d5_57 rfl rfl ?_
    refine r_R X6 hx hby hret hlk d5_58 e6 ?_
    exact ⟨N6, K9, b1, rfl, ⟨_, _, _, _, c6_0, Or.inl ⟨rfl, rfl, rfl, (own_alS hq10 own_al0)⟩⟩, (show h0.size ≤ b1 by first | assumption | omega | decide)⟩
  · show own_Goes p e below (T6.setTop (mkF m 12 #[vR xc, vI 0, vI 1, vR b1, uS, uS] [.int 0])) _
    refine q_istore X6 hx hby d5_12 (l' := #[vR xc, vI 0, vI 1, vR b1, vI 0, uS]) rfl ?_
    refine q_iload X6 hx hby d5_14 rfl ?_
    refine q_iloadN X6 hx hby d5_16 rfl ?_
    refine q_icmpNo X6 hx hby d5_17 (feq (show ¬ ((0 : Int32) = (1 : Int32)) from by decide)).1 ?_
    refine q_aloadN X6 hx hby d5_20 rfl rfl ?_
    refine q_iloadN X6 hx hby d5_21 rfl ?_
    refine q_iloadN X6 hx hby d5_22 rfl ?_
    have f11 := (f5.keep Kc6 (ninS (nE xc b1 (by omega)) nin0))
    refine k_S X6 hx hby hZ hown (wh hw 152 rfl) (wh hw 153 rfl) (W := 0) (own_toBy1 l Z a0 hw [] xc xk c0 h6 n0 O7 gz gfm gwC gwM G f11) (wh hw 154 rfl) (wh hw 29 rfl) e6  hml (argsL := [.ref xc, .int 0, .int 1]) (rest := []) own_pd_4 d5_23 (fun _ T12 L12 X12 hQ12 => ?_)
    obtain ⟨h12, e12⟩ : ∃ z, T12.heap = z := ⟨_, rfl⟩
    rw [e12] at hQ12
    obtain ⟨Nc12, Kc12, r_12, rk_12, rfl, c12_0, c12_1⟩ := hQ12
    have N12 := Fr.app N6 Nc12
    have O13 := O7.keep Kc12 all0
    have sz14 : h6.size ≤ h12.size := Kc12.1
    have K15 := Keep.trans K9 Kc12 all0
    have ltc12_0 : @LT.lt Nat _ r_12 h12.size := c12_0.lt
    refine q_astore X12 hx hby d5_26 rfl (l' := #[vR xc, vI 0, vI 1, vR b1, vI 0, vR r_12]) rfl ?_
    refine q_aload X12 hx hby d5_28 rfl rfl ?_
    refine q_iload X12 hx hby d5_30 rfl ?_
    refine k_S X12 hx hby hZ hown (wh hw 168 rfl) (wh hw 169 rfl) (W := 0) (own_gc1_0 l Z a0 hw [] r_12 rk_12 (c0.toInt8.toInt32) ((c0 >>> ((8 : Int32) &&& 31)).toInt8.toInt32) h12 n0 O13 gz gfm gwC gwM G c12_0) (wh hw 170 rfl) (wh hw 29 rfl) e12  hml (argsL := [.ref r_12, .int 0]) (rest := []) own_pd_5 d5_32 (fun _ T16 L16 X16 hQ16 => ?_)
    obtain ⟨Nc16, e16, rfl⟩ := hQ16
    have N16 := Fr.app N12 Nc16
    show own_Goes p e below (T16.setTop (mkF m 35 #[vR xc, vI 0, vI 1, vR b1, vI 0, vR r_12] [(.int (((((c0.toInt8.toInt32) &&& (255 : Int32)) <<< ((0 : Int32) &&& 31)) ||| ((((c0 >>> ((8 : Int32) &&& 31)).toInt8.toInt32) &&& (255 : Int32)) <<< ((8 : Int32) &&& 31))).toUInt32.toUInt16.toUInt32.toInt32))])) _
    rw [show (((((c0.toInt8.toInt32) &&& (255 : Int32)) <<< ((0 : Int32) &&& 31)) ||| ((((c0 >>> ((8 : Int32) &&& 31)).toInt8.toInt32) &&& (255 : Int32)) <<< ((8 : Int32) &&& 31))).toUInt32.toUInt16.toUInt32.toInt32) = c0 from own_g16 P1]
    refine q_sipush X16 hx hby d5_35 ?_
    refine q_icmpYes (pc := 38) X16 hx hby d5_38 (pc' := 54) (tlt hq10).2.2.1 (by decide) (by decide) ?_
    refine q_aload X16 hx hby d5_54 rfl rfl ?_
    refine r_R X16 hx hby hret hlk d5_56 e16 ?_
    exact ⟨N16, K15, r_12, rfl, ⟨_, _, _, _, c12_0, Or.inr ⟨rfl, rfl, rfl, c0, by simp, hq10⟩⟩, (show h0.size ≤ r_12 by first | assumption | omega | decide)⟩
theorem d7_0 : decode B7 0 = .ok (.iload_n 1, 1) := by decide +kernel
theorem d7_1 : decode B7 1 = .ok (.aload_n 0, 1) := by decide +kernel
theorem d7_2 : decode B7 2 = .ok (.arraylength, 1) := by decide +kernel
theorem d7_3 : decode B7 3 = .ok (.isub, 1) := by decide +kernel
theorem d7_4 : decode B7 4 = .ok (.bipush 31, 2) := by decide +kernel
theorem d7_6 : decode B7 6 = .ok (.iushr, 1) := by decide +kernel
theorem d7_7 : decode B7 7 = .ok (.i2b, 1) := by decide +kernel
theorem d7_8 : decode B7 8 = .ok (.ireturn, 1) := by decide +kernel
theorem own_ef_own_cfa1a (m : MethodId) (xb : Addr) : entryFrame m #[.ref xb, .int 1] 2 = mkF m 0 #[vR xb, vI 1] [] := by first | (simp [entryFrame, mkF, argsToLocals, Value.category]; done) | rfl
def Q_own_cfa1a (Z : State) (xb : Addr) (xq : ClassId) (y0 : Int32) (h0 : Heap) (n0 : Nat) (v : Option Value) (h : Heap) (L : List Loc) : Prop := Fr n0 L ∧ h = h0 ∧ v = some (.int 0)
theorem own_cfa1a (l : Launch) (Z : State) (a0 : Array Value) (hw : ∀ d ∈ tables_1, d.before a0 Z = true) (ws : List Jvm.Cond) (xb : Addr) (xq : ClassId) (y0 : Int32) (h0 : Heap) (n0 : Nat) (O0 : Old Z n0 h0) (P0 : Arv Z h0 xb xq .byte (1 : Int32) [.int y0] (.int 0)) : own_Met l Z (⟨"java/lang/StringUTF16", "coderFromArrayLen", "([BI)B"⟩ : MethodName) jdk_52_method_15_code 2 (some .byte) ws ({ frames := 0, cells := 0, slots := 0, locals := 0 } : Room) #[.ref xb, .int 1] h0 (Q_own_cfa1a Z xb xq y0 h0 n0) := by
  refine own_mk (plainFor_of_name own_pn_java_lang_StringUTF16) O0 ?_
  intro p e s m below meth c s₁ hx hby hml hZ hown hnm hlk hret X0 e0 N0 z0 z1
  refine own_cast (own_ef_own_cfa1a m xb) ?_
  show own_Goes p e below (s₁.setTop (mkF m 0 #[vR xb, vI 1] [])) _
  have ltP0 : @LT.lt Nat _ xb h0.size := P0.lt
  refine q_iloadN X0 hx hby d7_0 rfl ?_
  refine q_aloadN X0 hx hby d7_1 rfl rfl ?_
  refine q_len X0 hx hby hZ e0 P0 d7_2 ?_
  refine q_isub X0 hx hby d7_3 ?_
  show own_Goes p e below (s₁.setTop (mkF m 4 #[vR xb, vI 1] [(.int ((1 : Int32) - (1 : Int32)))])) _
  rw [show ((1 : Int32) - (1 : Int32)) = (0 : Int32) from by decide]
  refine q_bipush X0 hx hby d7_4 ?_
  refine gg (fun t k => XS.iushr X0.here hx rfl (hb hby d7_6) rfl k) ?_
  show own_Goes p e below (s₁.setTop (mkF m 7 #[vR xb, vI 1] [(.int (((0 : Int32).toUInt32 >>> ((31 : Int32) &&& 31).toUInt32).toInt32))])) _
  rw [show (((0 : Int32).toUInt32 >>> ((31 : Int32) &&& 31).toUInt32).toInt32) = (0 : Int32) from by decide]
  refine gg (fun t k => XS.i2b X0.here hx rfl (hb hby d7_7) rfl k) ?_
  show own_Goes p e below (s₁.setTop (mkF m 8 #[vR xb, vI 1] [(.int ((0 : Int32).toInt8.toInt32))])) _
  rw [show ((0 : Int32).toInt8.toInt32) = (0 : Int32) from by decide]
  refine r_B X0 hx hby hret hlk d7_8 e0 ?_
  exact ⟨N0, rfl, rfl⟩
theorem own_ef_own_cfa1b (m : MethodId) (xb : Addr) : entryFrame m #[.ref xb, .int 1] 2 = mkF m 0 #[vR xb, vI 1] [] := by first | (simp [entryFrame, mkF, argsToLocals, Value.category]; done) | rfl
def Q_own_cfa1b (Z : State) (xb : Addr) (xq : ClassId) (y0 : Int32) (y1 : Int32) (h0 : Heap) (n0 : Nat) (v : Option Value) (h : Heap) (L : List Loc) : Prop := Fr n0 L ∧ h = h0 ∧ v = some (.int 1)
theorem own_cfa1b (l : Launch) (Z : State) (a0 : Array Value) (hw : ∀ d ∈ tables_1, d.before a0 Z = true) (ws : List Jvm.Cond) (xb : Addr) (xq : ClassId) (y0 : Int32) (y1 : Int32) (h0 : Heap) (n0 : Nat) (O0 : Old Z n0 h0) (P0 : Arv Z h0 xb xq .byte (2 : Int32) [.int y0, .int y1] (.int 0)) : own_Met l Z (⟨"java/lang/StringUTF16", "coderFromArrayLen", "([BI)B"⟩ : MethodName) jdk_52_method_15_code 2 (some .byte) ws ({ frames := 0, cells := 0, slots := 0, locals := 0 } : Room) #[.ref xb, .int 1] h0 (Q_own_cfa1b Z xb xq y0 y1 h0 n0) := by
  refine own_mk (plainFor_of_name own_pn_java_lang_StringUTF16) O0 ?_
  intro p e s m below meth c s₁ hx hby hml hZ hown hnm hlk hret X0 e0 N0 z0 z1
  refine own_cast (own_ef_own_cfa1b m xb) ?_
  show own_Goes p e below (s₁.setTop (mkF m 0 #[vR xb, vI 1] [])) _
  have ltP0 : @LT.lt Nat _ xb h0.size := P0.lt
  refine q_iloadN X0 hx hby d7_0 rfl ?_
  refine q_aloadN X0 hx hby d7_1 rfl rfl ?_
  refine q_len X0 hx hby hZ e0 P0 d7_2 ?_
  refine q_isub X0 hx hby d7_3 ?_
  show own_Goes p e below (s₁.setTop (mkF m 4 #[vR xb, vI 1] [(.int ((1 : Int32) - (2 : Int32)))])) _
  rw [show ((1 : Int32) - (2 : Int32)) = (-1 : Int32) from by decide]
  refine q_bipush X0 hx hby d7_4 ?_
  refine gg (fun t k => XS.iushr X0.here hx rfl (hb hby d7_6) rfl k) ?_
  show own_Goes p e below (s₁.setTop (mkF m 7 #[vR xb, vI 1] [(.int (((-1 : Int32).toUInt32 >>> ((31 : Int32) &&& 31).toUInt32).toInt32))])) _
  rw [show (((-1 : Int32).toUInt32 >>> ((31 : Int32) &&& 31).toUInt32).toInt32) = (1 : Int32) from by decide]
  refine gg (fun t k => XS.i2b X0.here hx rfl (hb hby d7_7) rfl k) ?_
  show own_Goes p e below (s₁.setTop (mkF m 8 #[vR xb, vI 1] [(.int ((1 : Int32).toInt8.toInt32))])) _
  rw [show ((1 : Int32).toInt8.toInt32) = (1 : Int32) from by decide]
  refine r_B X0 hx hby hret hlk d7_8 e0 ?_
  exact ⟨N0, rfl, rfl⟩
theorem d3_0 : decode B3 0 = .ok (.aload_n 0, 1) := by decide +kernel
theorem d3_1 : decode B3 1 = .ok (.invokespecial 1, 3) := by decide +kernel
theorem d3_4 : decode B3 4 = .ok (.iload_n 3, 1) := by decide +kernel
theorem d3_5 : decode B3 5 = .ok (.ifCond .ne 22, 3) := by decide +kernel
theorem d3_27 : decode B3 27 = .ok (.getstatic 38, 3) := by decide +kernel
theorem d3_30 : decode B3 30 = .ok (.ifCond .eq 28, 3) := by decide +kernel
theorem d3_33 : decode B3 33 = .ok (.aload_n 1, 1) := by decide +kernel
theorem d3_34 : decode B3 34 = .ok (.iload_n 2, 1) := by decide +kernel
theorem d3_35 : decode B3 35 = .ok (.iload_n 3, 1) := by decide +kernel
theorem d3_36 : decode B3 36 = .ok (.invokestatic 177, 3) := by decide +kernel
theorem d3_39 : decode B3 39 = .ok (.astore 5, 2) := by decide +kernel
theorem d3_41 : decode B3 41 = .ok (.aload_n 0, 1) := by decide +kernel
theorem d3_42 : decode B3 42 = .ok (.aload 5, 2) := by decide +kernel
theorem d3_44 : decode B3 44 = .ok (.iload_n 3, 1) := by decide +kernel
theorem d3_45 : decode B3 45 = .ok (.invokestatic 47, 3) := by decide +kernel
theorem own_pd_6 : parseMethodDescriptor "([BI)B" = some ⟨[(.array .byte), .int], some .byte⟩ := by decide +kernel
theorem d3_48 : decode B3 48 = .ok (.putfield 15, 3) := by decide +kernel
theorem d3_51 : decode B3 51 = .ok (.aload_n 0, 1) := by decide +kernel
theorem d3_52 : decode B3 52 = .ok (.aload 5, 2) := by decide +kernel
theorem d3_54 : decode B3 54 = .ok (.putfield 9, 3) := by decide +kernel
theorem d3_57 : decode B3 57 = .ok (.return_, 1) := by decide +kernel
theorem own_pn_java_lang_String : plainName "java/lang/String" = true := by first | (simp [plainName, overriddenIn]; done) | decide +kernel
theorem own_ef_own_si1 (m : MethodId) (xa : Addr) (xc : Addr) : entryFrame m #[.ref xa, .ref xc, .int 0, .int 1, .null] 6 = mkF m 0 #[vR xa, vR xc, vI 0, vI 1, vN, uS] [] := by first | (simp [entryFrame, mkF, argsToLocals, Value.category]; done) | rfl
def Q_own_si1 (Z : State) (xa : Addr) (xc : Addr) (xk : ClassId) (c0 : Int32) (gz : Int32) (gfm : Value) (gwC : Addr) (gwM : Addr) (h0 : Heap) (n0 : Nat) (v : Option Value) (h : Heap) (L : List Loc) : Prop := Fr n0 L ∧ Keep h0 h [xa] ∧ ∃ (rb : Addr), v = none ∧ own_Str Z h xa rb ([c0] : List Int32)
theorem own_si1 (l : Launch) (Z : State) (a0 : Array Value) (hw : ∀ d ∈ tables_1, d.before a0 Z = true) (ws : List Jvm.Cond) (xa : Addr) (xc : Addr) (xk : ClassId) (c0 : Int32) (h0 : Heap) (n0 : Nat) (O0 : Old Z n0 h0) (gz : Int32) (gfm : Value) (gwC : Addr) (gwM : Addr) (G : GG Z gz gfm gwC gwM) (P0 : Exa Z h0 xa "java/lang/String") (P1 : Fld Z h0 xa "java/lang/String" "value" "[B" .null) (P2 : Fld Z h0 xa "java/lang/String" "coder" "B" (.int 0)) (P3 : n0 ≤ xa) (P4 : Arv Z h0 xc xk .char (1 : Int32) [.int c0] (.int 0)) (P5 : (@LT.lt Nat _ xc xa ∨ @LT.lt Nat _ xa xc)) (P6 : own_C16 c0) : own_Met l Z (⟨"java/lang/String", "<init>", "([CIILjava/lang/Void;)V"⟩ : MethodName) jdk_42_method_149_code 6 none ws ({ frames := 4, cells := 2, slots := 3, locals := 57 } : Room) #[.ref xa, .ref xc, .int 0, .int 1, .null] h0 (Q_own_si1 Z xa xc xk c0 gz gfm gwC gwM h0 n0) := by
  refine own_mk (plainFor_of_name own_pn_java_lang_String) O0 ?_
  intro p e s m below meth c s₁ hx hby hml hZ hown hnm hlk hret X0 e0 N0 z0 z1
  have K0 : Keep h0 h0 [xa] := Keep.refl _ _
  refine own_cast (own_ef_own_si1 m xa xc) ?_
  show own_Goes p e below (s₁.setTop (mkF m 0 #[vR xa, vR xc, vI 0, vI 1, vN, uS] [])) _
  obtain ⟨G0, G1, G2, G3, G4, G5, G6, G7, G8, G9, G10, G11⟩ := id G
  have ltG8 : @LT.lt Nat _ gwC Z.heap.size := G8.lt
  have ltG10 : @LT.lt Nat _ gwM Z.heap.size := G10.lt
  have ltP0 : @LT.lt Nat _ xa h0.size := P0.lt
  have ltP4 : @LT.lt Nat _ xc h0.size := P4.lt
  refine q_aloadN X0 hx hby d3_0 rfl rfl ?_
  obtain ⟨T1, X1, e1, st1⟩ := initO X0 hx hZ hown (wh hw 15 rfl) (wh hw 16 rfl) (wh hw 17 rfl) e0 (g := (mkF m 1 #[vR xa, vR xc, vI 0, vI 1, vN, uS] [.ref xa])) rfl (by rw [hml]; rfl) rfl (hb hby d3_1) (by decide) (W := 0) (by show 2 * 0 + _ ≤ _; exact Nat.le_of_eq rfl) (by decide)
  refine gg st1 ?_
  refine q_iloadN X1 hx hby d3_4 rfl ?_
  refine q_ifYes (pc := 5) X1 hx hby d3_5 (pc' := 27) ((if0 _ _).trans (feq (show ¬ ((1 : Int32) = (0 : Int32)) from by decide)).2) (by decide) (by decide) ?_
  have q2 := G0.ext O0.2
  refine qS X1 hx hby hZ hown (host := "") (Or.inl (wh hw 26 rfl)) Via.refl e1 q2 d3_27 (fun T3 X3 e3 => ?_)
  refine q_ifNo X3 hx hby d3_30 ((if0 _ _).trans (feq (show ¬ (gz = (0 : Int32)) from G1)).1) ?_
  refine q_aloadN X3 hx hby d3_33 rfl rfl ?_
  refine q_iloadN X3 hx hby d3_34 rfl ?_
  refine q_iloadN X3 hx hby d3_35 rfl ?_
  refine k_S X3 hx hby hZ hown (wh hw 27 rfl) (wh hw 28 rfl) (W := 0) (own_co1 l Z a0 hw [] xc xk c0 h0 n0 O0 gz gfm gwC gwM G P4 (show own_C16 c0 from P6)) (wh hw 30 rfl) (wh hw 29 rfl) e3  hml (argsL := [.ref xc, .int 0, .int 1]) (rest := []) own_pd_4 d3_36 (fun _ T4 L4 X4 hQ4 => ?_)
  obtain ⟨h4, e4⟩ : ∃ z, T4.heap = z := ⟨_, rfl⟩
  rw [e4] at hQ4
  obtain ⟨Nc4, Kc4, r_4, rfl, c4_0, c4_1⟩ := hQ4
  have N4 := Fr.app N0 Nc4
  have O5 := O0.keep Kc4 all0
  have sz6 : h0.size ≤ h4.size := Kc4.1
  have K7 := Keep.trans K0 Kc4 all0
  obtain ⟨kbs8, cds8, Ns8, vss8, As8, hCs8⟩ := id c4_0
  rcases hCs8 with ⟨rfl, rfl, rfl, hLs8⟩ | ⟨rfl, rfl, rfl, hWs8⟩
  · have Bs8 : Arv Z h4 r_4 kbs8 .byte (1 : Int32) [(.int (c0.toInt8.toInt32))] (.int 0) := As8
    show own_Goes p e below (T4.setTop (mkF m 39 #[vR xa, vR xc, vI 0, vI 1, vN, uS] [.ref r_4])) _
    refine q_astore X4 hx hby d3_39 rfl (l' := #[vR xa, vR xc, vI 0, vI 1, vN, vR r_4]) rfl ?_
    refine q_aloadN X4 hx hby d3_41 rfl rfl ?_
    refine q_aload X4 hx hby d3_42 rfl rfl ?_
    refine q_iloadN X4 hx hby d3_44 rfl ?_
    refine k_S X4 hx hby hZ hown (wh hw 34 rfl) (wh hw 35 rfl) (W := 1) (own_cfa1a l Z a0 hw [] r_4 kbs8 (c0.toInt8.toInt32) h4 n0 O5 Bs8) (wh hw 36 rfl) (wh hw 29 rfl) e4  hml (argsL := [.ref r_4, .int 1]) (rest := [.ref xa]) own_pd_6 d3_45 (fun _ T9 L9 X9 hQ9 => ?_)
    obtain ⟨Nc9, e9, rfl⟩ := hQ9
    have N9 := Fr.app N4 Nc9
    have f10 := (P2.keep Kc4 nin0)
    have f11 := (P0.keep Kc4)
    obtain ⟨T12, h12, X12, e12, W12, st12⟩ := putFN X9 hx hZ hown (wh hw 25 rfl) Via.refl e9 f10 f11 (Or.inr ⟨(wh hw 21 rfl), rfl, hnm⟩) (wh hw 5 rfl) (ty := .byte) (v' := (.int 0)) (by decide) rfl rfl (g := (mkF m 48 #[vR xa, vR xc, vI 0, vI 1, vN, vR r_4] [.int 0, .ref xa])) rfl rfl (hb hby d3_48)
    refine gg st12 ?_
    have O13 := O5.wr W12 (show n0 ≤ xa by omega)
    have sz14 : h12.size = h4.size := Wr.size W12
    have K15 := K7.wr W12 (Or.inl (List.mem_of_getElem? (i := 0) rfl))
    have N12 := Fr.snoc X12 N9 (show n0 ≤ xa by omega)
    have Fw12 := f10.same W12
    refine q_aloadN X12 hx hby d3_51 rfl rfl ?_
    refine q_aload X12 hx hby d3_52 rfl rfl ?_
    have f16 := ((P1.keep Kc4 nin0).other W12 (Or.inr (slot_ne (Or.inr (wh hw 20 rfl)) (Or.inr (wh hw 21 rfl)) (by decide) (t := (.array .byte)) (t' := .byte) (by decide) (by decide))))
    have f17 := (f11.wr W12)
    refine qP X12 hx hby hZ hown (host := "") (Or.inl (wh hw 24 rfl)) Via.refl e12 f16 f17 (Or.inr ⟨(wh hw 20 rfl), rfl, hnm⟩) (wh hw 5 rfl) (ty := (.array .byte)) d3_54 (fun T18 h18 X18 e18 W18 => ?_)
    have O19 := O13.wr W18 (show n0 ≤ xa by omega)
    have sz20 : h18.size = h12.size := Wr.size W18
    have K21 := K15.wr W18 (Or.inl (List.mem_of_getElem? (i := 0) rfl))
    have N18 := Fr.snoc X18 N12 (show n0 ≤ xa by omega)
    have Fw18 := f16.same W18
    refine r_V X18 hx hby hret hlk d3_57 e18 ?_
    have f22 := (f17.wr W18)
    have f23 := (Fw12.other W18 (Or.inr (slot_ne (Or.inr (wh hw 21 rfl)) (Or.inr (wh hw 20 rfl)) (by decide) (t := .byte) (t' := (.array .byte)) (by decide) (by decide))))
    have f24 := ((Bs8.other W12 (nE r_4 xa (by omega))).other W18 (nE r_4 xa (by omega)))
    exact ⟨N18, K21, r_4, rfl, ⟨f22, Fw18, _, _, _, _, f23, f24, Or.inl ⟨rfl, rfl, rfl, hLs8⟩, (own_alS P6 own_al0), Nat.le_of_ble_eq_true rfl⟩⟩
  · have Bs8 : Arv Z h4 r_4 kbs8 .byte (2 : Int32) [(.int (c0.toInt8.toInt32)), (.int ((c0 >>> ((8 : Int32) &&& 31)).toInt8.toInt32))] (.int 0) := As8
    show own_Goes p e below (T4.setTop (mkF m 39 #[vR xa, vR xc, vI 0, vI 1, vN, uS] [.ref r_4])) _
    refine q_astore X4 hx hby d3_39 rfl (l' := #[vR xa, vR xc, vI 0, vI 1, vN, vR r_4]) rfl ?_
    refine q_aloadN X4 hx hby d3_41 rfl rfl ?_
    refine q_aload X4 hx hby d3_42 rfl rfl ?_
    refine q_iloadN X4 hx hby d3_44 rfl ?_
    refine k_S X4 hx hby hZ hown (wh hw 34 rfl) (wh hw 35 rfl) (W := 1) (own_cfa1b l Z a0 hw [] r_4 kbs8 (c0.toInt8.toInt32) ((c0 >>> ((8 : Int32) &&& 31)).toInt8.toInt32) h4 n0 O5 Bs8) (wh hw 36 rfl) (wh hw 29 rfl) e4  hml (argsL := [.ref r_4, .int 1]) (rest := [.ref xa]) own_pd_6 d3_45 (fun _ T25 L25 X25 hQ25 => ?_)
    obtain ⟨Nc25, e25, rfl⟩ := hQ25
    have N25 := Fr.app N4 Nc25
    have f26 := (P2.keep Kc4 nin0)
    have f27 := (P0.keep Kc4)
    obtain ⟨T28, h28, X28, e28, W28, st28⟩ := putFN X25 hx hZ hown (wh hw 25 rfl) Via.refl e25 f26 f27 (Or.inr ⟨(wh hw 21 rfl), rfl, hnm⟩) (wh hw 5 rfl) (ty := .byte) (v' := (.int 1)) (by decide) rfl rfl (g := (mkF m 48 #[vR xa, vR xc, vI 0, vI 1, vN, vR r_4] [.int 1, .ref xa])) rfl rfl (hb hby d3_48)
    refine gg st28 ?_
    have O29 := O5.wr W28 (show n0 ≤ xa by omega)
    have sz30 : h28.size = h4.size := Wr.size W28
    have K31 := K7.wr W28 (Or.inl (List.mem_of_getElem? (i := 0) rfl))
    have N28 := Fr.snoc X28 N25 (show n0 ≤ xa by omega)
    have Fw28 := f26.same W28
    refine q_aloadN X28 hx hby d3_51 rfl rfl ?_
    refine q_aload X28 hx hby d3_52 rfl rfl ?_
    have f32 := ((P1.keep Kc4 nin0).other W28 (Or.inr (slot_ne (Or.inr (wh hw 20 rfl)) (Or.inr (wh hw 21 rfl)) (by decide) (t := (.array .byte)) (t' := .byte) (by decide) (by decide))))
    have f33 := (f27.wr W28)
    refine qP X28 hx hby hZ hown (host := "") (Or.inl (wh hw 24 rfl)) Via.refl e28 f32 f33 (Or.inr ⟨(wh hw 20 rfl), rfl, hnm⟩) (wh hw 5 rfl) (ty := (.array .byte)) d3_54 (fun T34 h34 X34 e34 W34 => ?_)
    have O35 := O29.wr W34 (show n0 ≤ xa by omega)
    have sz36 : h34.size = h28.size := Wr.size W34
    have K37 := K31.wr W34 (Or.inl (List.mem_of_getElem? (i := 0) rfl))
    have N34 := Fr.snoc X34 N28 (show n0 ≤ xa by omega)
    have Fw34 := f32.same W34
    refine r_V X34 hx hby hret hlk d3_57 e34 ?_
    have f38 := (f33.wr W34)
    have f39 := (Fw28.other W34 (Or.inr (slot_ne (Or.inr (wh hw 21 rfl)) (Or.inr (wh hw 20 rfl)) (by decide) (t := .byte) (t' := (.array .byte)) (by decide) (by decide))))
    have f40 := ((Bs8.other W28 (nE r_4 xa (by omega))).other W34 (nE r_4 xa (by omega)))
    exact ⟨N34, K37, r_4, rfl, ⟨f38, Fw34, _, _, _, _, f39, f40, Or.inr ⟨rfl, rfl, rfl, hWs8⟩, (own_alS P6 own_al0), Nat.le_of_ble_eq_true rfl⟩⟩
theorem d2_0 : decode B2 0 = .ok (.aload_n 0, 1) := by decide +kernel
theorem d2_1 : decode B2 1 = .ok (.aload_n 1, 1) := by decide +kernel
theorem d2_2 : decode B2 2 = .ok (.iconst 0, 1) := by decide +kernel
theorem d2_3 : decode B2 3 = .ok (.aload_n 1, 1) := by decide +kernel
theorem d2_4 : decode B2 4 = .ok (.arraylength, 1) := by decide +kernel
theorem d2_5 : decode B2 5 = .ok (.aconst_null, 1) := by decide +kernel
theorem d2_6 : decode B2 6 = .ok (.invokespecial 27, 3) := by decide +kernel
theorem own_pd_7 : parseMethodDescriptor "([CIILjava/lang/Void;)V" = some ⟨[(.array .char), .int, .int, (.object "java/lang/Void")], none⟩ := by decide +kernel
theorem d2_9 : decode B2 9 = .ok (.return_, 1) := by decide +kernel
theorem own_ef_own_sc1 (m : MethodId) (xa : Addr) (xc : Addr) : entryFrame m #[.ref xa, .ref xc] 2 = mkF m 0 #[vR xa, vR xc] [] := by first | (simp [entryFrame, mkF, argsToLocals, Value.category]; done) | rfl
def Q_own_sc1 (Z : State) (xa : Addr) (xc : Addr) (xk : ClassId) (c0 : Int32) (gz : Int32) (gfm : Value) (gwC : Addr) (gwM : Addr) (h0 : Heap) (n0 : Nat) (v : Option Value) (h : Heap) (L : List Loc) : Prop := Fr n0 L ∧ Keep h0 h [xa] ∧ ∃ (rb : Addr), v = none ∧ own_Str Z h xa rb ([c0] : List Int32)
theorem own_sc1 (l : Launch) (Z : State) (a0 : Array Value) (hw : ∀ d ∈ tables_1, d.before a0 Z = true) (ws : List Jvm.Cond) (xa : Addr) (xc : Addr) (xk : ClassId) (c0 : Int32) (h0 : Heap) (n0 : Nat) (O0 : Old Z n0 h0) (gz : Int32) (gfm : Value) (gwC : Addr) (gwM : Addr) (G : GG Z gz gfm gwC gwM) (P0 : Exa Z h0 xa "java/lang/String") (P1 : Fld Z h0 xa "java/lang/String" "value" "[B" .null) (P2 : Fld Z h0 xa "java/lang/String" "coder" "B" (.int 0)) (P3 : n0 ≤ xa) (P4 : Arv Z h0 xc xk .char (1 : Int32) [.int c0] (.int 0)) (P5 : (@LT.lt Nat _ xc xa ∨ @LT.lt Nat _ xa xc)) (P6 : own_C16 c0) : own_Met l Z (⟨"java/lang/String", "<init>", "([C)V"⟩ : MethodName) jdk_42_method_3_code 2 none ws ({ frames := 5, cells := 2, slots := 3, locals := 74 } : Room) #[.ref xa, .ref xc] h0 (Q_own_sc1 Z xa xc xk c0 gz gfm gwC gwM h0 n0) := by
  refine own_mk (plainFor_of_name own_pn_java_lang_String) O0 ?_
  intro p e s m below meth c s₁ hx hby hml hZ hown hnm hlk hret X0 e0 N0 z0 z1
  have K0 : Keep h0 h0 [xa] := Keep.refl _ _
  refine own_cast (own_ef_own_sc1 m xa xc) ?_
  show own_Goes p e below (s₁.setTop (mkF m 0 #[vR xa, vR xc] [])) _
  obtain ⟨G0, G1, G2, G3, G4, G5, G6, G7, G8, G9, G10, G11⟩ := id G
  have ltG8 : @LT.lt Nat _ gwC Z.heap.size := G8.lt
  have ltG10 : @LT.lt Nat _ gwM Z.heap.size := G10.lt
  have ltP0 : @LT.lt Nat _ xa h0.size := P0.lt
  have ltP4 : @LT.lt Nat _ xc h0.size := P4.lt
  refine q_aloadN X0 hx hby d2_0 rfl rfl ?_
  refine q_aloadN X0 hx hby d2_1 rfl rfl ?_
  refine q_iconst X0 hx hby d2_2 ?_
  refine q_aloadN X0 hx hby d2_3 rfl rfl ?_
  refine q_len X0 hx hby hZ e0 P4 d2_4 ?_
  refine q_aconstNull X0 hx hby d2_5 ?_
  refine k_N X0 hx hby hZ hown (wh hw 11 rfl) (wh hw 12 rfl) (W := 0) (own_si1 l Z a0 hw [] xa xc xk c0 h0 n0 O0 gz gfm gwC gwM G P0 P1 P2 (show n0 ≤ xa by first | assumption | omega | decide) P4 (show (@LT.lt Nat _ xc xa ∨ @LT.lt Nat _ xa xc) by first | assumption | omega | decide) (show own_C16 c0 from P6)) (wh hw 14 rfl) (wh hw 6 rfl) e0  hml (argsL := [.ref xc, .int 0, .int 1, .null]) (rest := []) own_pd_7 d2_6 (fun _ T2 L2 X2 hQ2 => ?_)
  obtain ⟨h2, e2⟩ : ∃ z, T2.heap = z := ⟨_, rfl⟩
  rw [e2] at hQ2
  obtain ⟨Nc2, Kc2, rb_2, rfl, c2_0⟩ := hQ2
  have N2 := Fr.app N0 Nc2
  have O3 := O0.keep Kc2 (allS (show n0 ≤ xa by omega) all0)
  have sz4 : h0.size ≤ h2.size := Kc2.1
  have K5 := Keep.trans K0 Kc2 (allS (Or.inl (List.mem_of_getElem? (i := 0) rfl)) all0)
  have ltc2_0 : @LT.lt Nat _ xa h2.size := c2_0.1.lt
  have luc2_0 : @LT.lt Nat _ rb_2 h2.size := c2_0.lt2
  refine r_V X2 hx hby hret hlk d2_9 e2 ?_
  exact ⟨N2, K5, rb_2, rfl, c2_0⟩
theorem own_ef_own_nbl2 (m : MethodId) : entryFrame m #[.int 2] 1 = mkF m 0 #[vI 2] [] := by first | (simp [entryFrame, mkF, argsToLocals, Value.category]; done) | rfl
def Q_own_nbl2 (Z : State) (h0 : Heap) (n0 : Nat) (v : Option Value) (h : Heap) (L : List Loc) : Prop := Fr n0 L ∧ h = h0 ∧ v = some (.int 4)
theorem own_nbl2 (l : Launch) (Z : State) (a0 : Array Value) (hw : ∀ d ∈ tables_1, d.before a0 Z = true) (ws : List Jvm.Cond) (h0 : Heap) (n0 : Nat) (O0 : Old Z n0 h0) : own_Met l Z (⟨"java/lang/StringUTF16", "newBytesLength", "(I)I"⟩ : MethodName) jdk_52_method_3_code 1 (some .int) ws ({ frames := 0, cells := 0, slots := 0, locals := 0 } : Room) #[.int 2] h0 (Q_own_nbl2 Z h0 n0) := by
  refine own_mk (plainFor_of_name own_pn_java_lang_StringUTF16) O0 ?_
  intro p e s m below meth c s₁ hx hby hml hZ hown hnm hlk hret X0 e0 N0 z0 z1
  refine own_cast (own_ef_own_nbl2 m) ?_
  show own_Goes p e below (s₁.setTop (mkF m 0 #[vI 2] [])) _
  refine q_iloadN X0 hx hby d30_0 rfl ?_
  refine q_ifYes (pc := 1) X0 hx hby d30_1 (pc' := 12) ((if0 _ _).trans (flt (show ¬ ((2 : Int32) < (0 : Int32)) from by decide)).2.1) (by decide) (by decide) ?_
  refine q_iloadN X0 hx hby d30_12 rfl ?_
  refine gg (fun t k => Jvm.Stand.ldcI X0 hx hown (mv hZ (wh hw 161 rfl)) rfl (hb hby d30_13) k) ?_
  refine q_icmpYes (pc := 15) X0 hx hby d30_15 (pc' := 55) (tlt (show ((2 : Int32) < (1073741823 : Int32)) from by decide)).1 (by decide) (by decide) ?_
  refine q_iloadN X0 hx hby d30_55 rfl ?_
  refine q_iconst X0 hx hby d30_56 ?_
  refine gg (fun t k => XS.ishl X0.here hx rfl (hb hby d30_57) rfl k) ?_
  show own_Goes p e below (s₁.setTop (mkF m 58 #[vI 2] [(.int ((2 : Int32) <<< ((1 : Int32) &&& 31)))])) _
  rw [show ((2 : Int32) <<< ((1 : Int32) &&& 31)) = (4 : Int32) from by decide]
  refine r_I X0 hx hby hret hlk d30_58 e0 ?_
  exact ⟨N0, rfl, rfl⟩
theorem own_ef_own_nbf2 (m : MethodId) : entryFrame m #[.int 2] 1 = mkF m 0 #[vI 2] [] := by first | (simp [entryFrame, mkF, argsToLocals, Value.category]; done) | rfl
def Q_own_nbf2 (Z : State) (h0 : Heap) (n0 : Nat) (v : Option Value) (h : Heap) (L : List Loc) : Prop := Fr n0 L ∧ Keep h0 h [] ∧ ∃ (r : Addr), ∃ (rk : ClassId), v = some (.ref r) ∧ Arv Z h r rk .byte (4 : Int32) [.int 0, .int 0, .int 0, .int 0] (.int 0) ∧ h0.size ≤ r
theorem own_nbf2 (l : Launch) (Z : State) (a0 : Array Value) (hw : ∀ d ∈ tables_1, d.before a0 Z = true) (ws : List Jvm.Cond) (h0 : Heap) (n0 : Nat) (O0 : Old Z n0 h0) : own_Met l Z (⟨"java/lang/StringUTF16", "newBytesFor", "(I)[B"⟩ : MethodName) jdk_52_method_2_code 1 (some (.array .byte)) ws ({ frames := 1, cells := 1, slots := 4, locals := 12 } : Room) #[.int 2] h0 (Q_own_nbf2 Z h0 n0) := by
  refine own_mk (plainFor_of_name own_pn_java_lang_StringUTF16) O0 ?_
  intro p e s m below meth c s₁ hx hby hml hZ hown hnm hlk hret X0 e0 N0 z0 z1
  have K0 : Keep h0 h0 [] := Keep.refl _ _
  refine own_cast (own_ef_own_nbf2 m) ?_
  show own_Goes p e below (s₁.setTop (mkF m 0 #[vI 2] [])) _
  refine q_iloadN X0 hx hby d29_0 rfl ?_
  refine k_S X0 hx hby hZ hown (wh hw 158 rfl) (wh hw 159 rfl) (W := 0) (own_nbl2 l Z a0 hw []  h0 n0 O0) (wh hw 160 rfl) (wh hw 29 rfl) e0  hml (argsL := [.int 2]) (rest := []) own_pd_0 d29_1 (fun _ T1 L1 X1 hQ1 => ?_)
  obtain ⟨Nc1, e1, rfl⟩ := hQ1
  have N1 := Fr.app N0 Nc1
  obtain ⟨T2, h2, k2, X2, e2, E2, A2, st2⟩ := newP X1 hx hZ (wh hw 19 rfl) e1 (g := (mkF m 4 #[vI 2] [.int 4])) rfl (hb hby d29_4) rfl (by decide) (cap := 4) (by decide) (by decide) (by decide) (by decide)
  obtain ⟨b2, g2⟩ : ∃ z, z = h0.size := ⟨_, rfl⟩
  rw [← g2] at A2 st2
  refine gg st2 ?_
  have O3 := O0.ext E2
  have sz4 : h0.size ≤ h2.size := E2.1
  have K5 := K0.ext E2
  have l2 : @LT.lt Nat _ b2 h2.size := A2.lt
  have V2 : Arv Z h2 b2 k2 .byte (4 : Int32) [.int 0, .int 0, .int 0, .int 0] (.int 0) := (Arv.new A2 (by decide)).pad (pad_rep [] (.int 0) 4)
  refine r_R X2 hx hby hret hlk d29_6 e2 ?_
  exact ⟨N1, K5, b2, k2, rfl, V2, (show h0.size ≤ b2 by first | assumption | omega | decide)⟩
theorem own_ef_own_pc2_0 (m : MethodId) (xb : Addr) (xi : Int32) : entryFrame m #[.ref xb, .int 0, .int xi] 3 = mkF m 0 #[vR xb, vI 0, vI xi] [] := by first | (simp [entryFrame, mkF, argsToLocals, Value.category]; done) | rfl
def Q_own_pc2_0 (Z : State) (xb : Addr) (xq : ClassId) (xi : Int32) (y0 : Int32) (y1 : Int32) (y2 : Int32) (y3 : Int32) (gz : Int32) (gfm : Value) (gwC : Addr) (gwM : Addr) (h0 : Heap) (n0 : Nat) (v : Option Value) (h : Heap) (L : List Loc) : Prop := Fr n0 L ∧ Keep h0 h [xb] ∧ v = none ∧ Arv Z h xb xq .byte (4 : Int32) [(.int (xi.toInt8.toInt32)), (.int ((xi >>> ((8 : Int32) &&& 31)).toInt8.toInt32)), .int y2, .int y3] (.int 0)
theorem own_pc2_0 (l : Launch) (Z : State) (a0 : Array Value) (hw : ∀ d ∈ tables_1, d.before a0 Z = true) (ws : List Jvm.Cond) (xb : Addr) (xq : ClassId) (xi : Int32) (y0 : Int32) (y1 : Int32) (y2 : Int32) (y3 : Int32) (h0 : Heap) (n0 : Nat) (O0 : Old Z n0 h0) (gz : Int32) (gfm : Value) (gwC : Addr) (gwM : Addr) (G : GG Z gz gfm gwC gwM) (P0 : Arv Z h0 xb xq .byte (4 : Int32) [.int y0, .int y1, .int y2, .int y3] (.int 0)) (P1 : n0 ≤ xb) : own_Met l Z (⟨"java/lang/StringUTF16", "putChar", "([BII)V"⟩ : MethodName) jdk_52_method_4_code 3 none ws ({ frames := 0, cells := 0, slots := 0, locals := 0 } : Room) #[.ref xb, .int 0, .int xi] h0 (Q_own_pc2_0 Z xb xq xi y0 y1 y2 y3 gz gfm gwC gwM h0 n0) := by
  refine own_mk (plainFor_of_name own_pn_java_lang_StringUTF16) O0 ?_
  intro p e s m below meth c s₁ hx hby hml hZ hown hnm hlk hret X0 e0 N0 z0 z1
  have K0 : Keep h0 h0 [xb] := Keep.refl _ _
  refine own_cast (own_ef_own_pc2_0 m xb xi) ?_
  show own_Goes p e below (s₁.setTop (mkF m 0 #[vR xb, vI 0, vI xi] [])) _
  obtain ⟨G0, G1, G2, G3, G4, G5, G6, G7, G8, G9, G10, G11⟩ := id G
  have ltG8 : @LT.lt Nat _ gwC Z.heap.size := G8.lt
  have ltG10 : @LT.lt Nat _ gwM Z.heap.size := G10.lt
  have ltP0 : @LT.lt Nat _ xb h0.size := P0.lt
  have q1 := G2.ext O0.2
  refine qS X0 hx hby hZ hown (host := "") (Or.inl (wh hw 165 rfl)) Via.refl e0 q1 d31_0 (fun T2 X2 e2 => ?_)
  refine q_ifYes (pc := 3) X2 hx hby d31_3 (pc' := 28) ((if0 _ _).trans (feq (show ¬ ((1 : Int32) = (0 : Int32)) from by decide)).2) (by decide) (by decide) ?_
  refine q_iloadN X2 hx hby d31_28 rfl ?_
  refine q_iconst X2 hx hby d31_29 ?_
  refine gg (fun t k => XS.ishl X2.here hx rfl (hb hby d31_30) rfl k) ?_
  show own_Goes p e below (T2.setTop (mkF m 31 #[vR xb, vI 0, vI xi] [(.int ((0 : Int32) <<< ((1 : Int32) &&& 31)))])) _
  rw [show ((0 : Int32) <<< ((1 : Int32) &&& 31)) = (0 : Int32) from by decide]
  refine q_istoreN X2 hx hby d31_31 (l' := #[vR xb, vI 0, vI xi]) rfl ?_
  refine q_aloadN X2 hx hby d31_32 rfl rfl ?_
  refine q_iloadN X2 hx hby d31_33 rfl ?_
  refine gg (fun t k => XS.iinc X2.here hx rfl (hb hby d31_34) rfl (l' := #[vR xb, vI ((0 : Int32) + (1 : Int32)), vI xi]) rfl k) ?_
  show own_Goes p e below (T2.setTop (mkF m 37 #[vR xb, vI ((0 : Int32) + (1 : Int32)), vI xi] [.int 0, .ref xb])) _
  rw [show ((0 : Int32) + (1 : Int32)) = (1 : Int32) from by decide]
  refine q_iloadN X2 hx hby d31_37 rfl ?_
  have q3 := G3.ext O0.2
  refine qS X2 hx hby hZ hown (host := "") (Or.inl (wh hw 166 rfl)) Via.refl e2 q3 d31_38 (fun T4 X4 e4 => ?_)
  refine gg (fun t k => XS.ishr X4.here hx rfl (hb hby d31_41) rfl k) ?_
  show own_Goes p e below (T4.setTop (mkF m 42 #[vR xb, vI 1, vI xi] [(.int (xi >>> ((0 : Int32) &&& 31))), .int 0, .ref xb])) _
  rw [show (xi >>> ((0 : Int32) &&& 31)) = xi from own_sh0 xi]
  refine gg (fun t k => XS.i2b X4.here hx rfl (hb hby d31_42) rfl k) ?_
  refine q_stB X4 hx hby hZ e4 P0 0 d31_43 (fun T6 h6 X6 e6 W6 V6 => ?_)
  have O7 := O0.wr W6 (show n0 ≤ xb by omega)
  have sz8 : h6.size = h0.size := Wr.size W6
  have K9 := K0.wr W6 (Or.inl (List.mem_of_getElem? (i := 0) rfl))
  have N6 := Fr.snoc X6 N0 (show n0 ≤ xb by omega)
  have V6 : Arv Z h6 xb xq .byte (4 : Int32) [(.int ((xi.toInt8.toInt32).toInt8.toInt32)), .int y1, .int y2, .int y3] (.int 0) := V6
  rw [show ((xi.toInt8.toInt32).toInt8.toInt32) = (xi.toInt8.toInt32) from own_i8i8 _] at V6
  refine q_aloadN X6 hx hby d31_44 rfl rfl ?_
  refine q_iloadN X6 hx hby d31_45 rfl ?_
  refine q_iloadN X6 hx hby d31_46 rfl ?_
  have q10 := G4.ext O7.2
  refine qS X6 hx hby hZ hown (host := "") (Or.inl (wh hw 167 rfl)) Via.refl e6 q10 d31_47 (fun T11 X11 e11 => ?_)
  refine gg (fun t k => XS.ishr X11.here hx rfl (hb hby d31_50) rfl k) ?_
  refine gg (fun t k => XS.i2b X11.here hx rfl (hb hby d31_51) rfl k) ?_
  refine q_stB X11 hx hby hZ e11 V6 1 d31_52 (fun T13 h13 X13 e13 W13 V13 => ?_)
  have O14 := O7.wr W13 (show n0 ≤ xb by omega)
  have sz15 : h13.size = h6.size := Wr.size W13
  have K16 := K9.wr W13 (Or.inl (List.mem_of_getElem? (i := 0) rfl))
  have N13 := Fr.snoc X13 N6 (show n0 ≤ xb by omega)
  have V13 : Arv Z h13 xb xq .byte (4 : Int32) [(.int (xi.toInt8.toInt32)), (.int (((xi >>> ((8 : Int32) &&& 31)).toInt8.toInt32).toInt8.toInt32)), .int y2, .int y3] (.int 0) := V13
  rw [show (((xi >>> ((8 : Int32) &&& 31)).toInt8.toInt32).toInt8.toInt32) = ((xi >>> ((8 : Int32) &&& 31)).toInt8.toInt32) from own_i8i8 _] at V13
  refine r_V X13 hx hby hret hlk d31_53 e13 ?_
  exact ⟨N13, K16, rfl, V13⟩
theorem own_ef_own_gc2_0 (m : MethodId) (xb : Addr) : entryFrame m #[.ref xb, .int 0] 2 = mkF m 0 #[vR xb, vI 0] [] := by first | (simp [entryFrame, mkF, argsToLocals, Value.category]; done) | rfl
def Q_own_gc2_0 (Z : State) (xb : Addr) (xq : ClassId) (y0 : Int32) (y1 : Int32) (y2 : Int32) (y3 : Int32) (gz : Int32) (gfm : Value) (gwC : Addr) (gwM : Addr) (h0 : Heap) (n0 : Nat) (v : Option Value) (h : Heap) (L : List Loc) : Prop := Fr n0 L ∧ h = h0 ∧ v = some (.int ((((y0 &&& (255 : Int32)) <<< ((0 : Int32) &&& 31)) ||| ((y1 &&& (255 : Int32)) <<< ((8 : Int32) &&& 31))).toUInt32.toUInt16.toUInt32.toInt32))
theorem own_gc2_0 (l : Launch) (Z : State) (a0 : Array Value) (hw : ∀ d ∈ tables_1, d.before a0 Z = true) (ws : List Jvm.Cond) (xb : Addr) (xq : ClassId) (y0 : Int32) (y1 : Int32) (y2 : Int32) (y3 : Int32) (h0 : Heap) (n0 : Nat) (O0 : Old Z n0 h0) (gz : Int32) (gfm : Value) (gwC : Addr) (gwM : Addr) (G : GG Z gz gfm gwC gwM) (P0 : Arv Z h0 xb xq .byte (4 : Int32) [.int y0, .int y1, .int y2, .int y3] (.int 0)) : own_Met l Z (⟨"java/lang/StringUTF16", "getChar", "([BI)C"⟩ : MethodName) jdk_52_method_5_code 2 (some .char) ws ({ frames := 0, cells := 0, slots := 0, locals := 0 } : Room) #[.ref xb, .int 0] h0 (Q_own_gc2_0 Z xb xq y0 y1 y2 y3 gz gfm gwC gwM h0 n0) := by
  refine own_mk (plainFor_of_name own_pn_java_lang_StringUTF16) O0 ?_
  intro p e s m below meth c s₁ hx hby hml hZ hown hnm hlk hret X0 e0 N0 z0 z1
  refine own_cast (own_ef_own_gc2_0 m xb) ?_
  show own_Goes p e below (s₁.setTop (mkF m 0 #[vR xb, vI 0] [])) _
  obtain ⟨G0, G1, G2, G3, G4, G5, G6, G7, G8, G9, G10, G11⟩ := id G
  have ltG8 : @LT.lt Nat _ gwC Z.heap.size := G8.lt
  have ltG10 : @LT.lt Nat _ gwM Z.heap.size := G10.lt
  have ltP0 : @LT.lt Nat _ xb h0.size := P0.lt
  have q1 := G2.ext O0.2
  refine qS X0 hx hby hZ hown (host := "") (Or.inl (wh hw 165 rfl)) Via.refl e0 q1 d32_0 (fun T2 X2 e2 => ?_)
  refine q_ifYes (pc := 3) X2 hx hby d32_3 (pc' := 28) ((if0 _ _).trans (feq (show ¬ ((1 : Int32) = (0 : Int32)) from by decide)).2) (by decide) (by decide) ?_
  refine q_iloadN X2 hx hby d32_28 rfl ?_
  refine q_iconst X2 hx hby d32_29 ?_
  refine gg (fun t k => XS.ishl X2.here hx rfl (hb hby d32_30) rfl k) ?_
  show own_Goes p e below (T2.setTop (mkF m 31 #[vR xb, vI 0] [(.int ((0 : Int32) <<< ((1 : Int32) &&& 31)))])) _
  rw [show ((0 : Int32) <<< ((1 : Int32) &&& 31)) = (0 : Int32) from by decide]
  refine q_istoreN X2 hx hby d32_31 (l' := #[vR xb, vI 0]) rfl ?_
  refine q_aloadN X2 hx hby d32_32 rfl rfl ?_
  refine q_iloadN X2 hx hby d32_33 rfl ?_
  refine gg (fun t k => XS.iinc X2.here hx rfl (hb hby d32_34) rfl (l' := #[vR xb, vI ((0 : Int32) + (1 : Int32))]) rfl k) ?_
  show own_Goes p e below (T2.setTop (mkF m 37 #[vR xb, vI ((0 : Int32) + (1 : Int32))] [.int 0, .ref xb])) _
  rw [show ((0 : Int32) + (1 : Int32)) = (1 : Int32) from by decide]
  refine q_baloadBytes X2 hx hby hZ e2 P0 d32_37 (.int y0) ?_
  refine q_sipush X2 hx hby d32_38 ?_
  refine q_iand X2 hx hby d32_41 ?_
  have q4 := G3.ext O0.2
  refine qS X2 hx hby hZ hown (host := "") (Or.inl (wh hw 166 rfl)) Via.refl e2 q4 d32_42 (fun T5 X5 e5 => ?_)
  refine gg (fun t k => XS.ishl X5.here hx rfl (hb hby d32_45) rfl k) ?_
  refine q_aloadN X5 hx hby d32_46 rfl rfl ?_
  refine q_iloadN X5 hx hby d32_47 rfl ?_
  refine q_baloadBytes X5 hx hby hZ e5 P0 d32_48 (.int y1) ?_
  refine q_sipush X5 hx hby d32_49 ?_
  refine q_iand X5 hx hby d32_52 ?_
  have q7 := G4.ext O0.2
  refine qS X5 hx hby hZ hown (host := "") (Or.inl (wh hw 167 rfl)) Via.refl e5 q7 d32_53 (fun T8 X8 e8 => ?_)
  refine gg (fun t k => XS.ishl X8.here hx rfl (hb hby d32_56) rfl k) ?_
  refine gg (fun t k => XS.ior X8.here hx rfl (hb hby d32_57) rfl k) ?_
  refine gg (fun t k => XS.i2c X8.here hx rfl (hb hby d32_58) rfl k) ?_
  show own_Goes p e below (T8.setTop (mkF m 59 #[vR xb, vI 1] [(.int ((((y0 &&& (255 : Int32)) <<< ((0 : Int32) &&& 31)) ||| ((y1 &&& (255 : Int32)) <<< ((8 : Int32) &&& 31))).toUInt32.toUInt16.toUInt32.toInt32))])) _
  refine r_C X8 hx hby hret hlk d32_59 e8 ?_ (hn := (own_narr16 (own_C16i _)))
  exact ⟨N0, rfl, rfl⟩
theorem own_ef_own_pc2_1 (m : MethodId) (xb : Addr) (xi : Int32) : entryFrame m #[.ref xb, .int 1, .int xi] 3 = mkF m 0 #[vR xb, vI 1, vI xi] [] := by first | (simp [entryFrame, mkF, argsToLocals, Value.category]; done) | rfl
def Q_own_pc2_1 (Z : State) (xb : Addr) (xq : ClassId) (xi : Int32) (y0 : Int32) (y1 : Int32) (y2 : Int32) (y3 : Int32) (gz : Int32) (gfm : Value) (gwC : Addr) (gwM : Addr) (h0 : Heap) (n0 : Nat) (v : Option Value) (h : Heap) (L : List Loc) : Prop := Fr n0 L ∧ Keep h0 h [xb] ∧ v = none ∧ Arv Z h xb xq .byte (4 : Int32) [.int y0, .int y1, (.int (xi.toInt8.toInt32)), (.int ((xi >>> ((8 : Int32) &&& 31)).toInt8.toInt32))] (.int 0)
theorem own_pc2_1 (l : Launch) (Z : State) (a0 : Array Value) (hw : ∀ d ∈ tables_1, d.before a0 Z = true) (ws : List Jvm.Cond) (xb : Addr) (xq : ClassId) (xi : Int32) (y0 : Int32) (y1 : Int32) (y2 : Int32) (y3 : Int32) (h0 : Heap) (n0 : Nat) (O0 : Old Z n0 h0) (gz : Int32) (gfm : Value) (gwC : Addr) (gwM : Addr) (G : GG Z gz gfm gwC gwM) (P0 : Arv Z h0 xb xq .byte (4 : Int32) [.int y0, .int y1, .int y2, .int y3] (.int 0)) (P1 : n0 ≤ xb) : own_Met l Z (⟨"java/lang/StringUTF16", "putChar", "([BII)V"⟩ : MethodName) jdk_52_method_4_code 3 none ws ({ frames := 0, cells := 0, slots := 0, locals := 0 } : Room) #[.ref xb, .int 1, .int xi] h0 (Q_own_pc2_1 Z xb xq xi y0 y1 y2 y3 gz gfm gwC gwM h0 n0) := by
  refine own_mk (plainFor_of_name own_pn_java_lang_StringUTF16) O0 ?_
  intro p e s m below meth c s₁ hx hby hml hZ hown hnm hlk hret X0 e0 N0 z0 z1
  have K0 : Keep h0 h0 [xb] := Keep.refl _ _
  refine own_cast (own_ef_own_pc2_1 m xb xi) ?_
  show own_Goes p e below (s₁.setTop (mkF m 0 #[vR xb, vI 1, vI xi] [])) _
  obtain ⟨G0, G1, G2, G3, G4, G5, G6, G7, G8, G9, G10, G11⟩ := id G
  have ltG8 : @LT.lt Nat _ gwC Z.heap.size := G8.lt
  have ltG10 : @LT.lt Nat _ gwM Z.heap.size := G10.lt
  have ltP0 : @LT.lt Nat _ xb h0.size := P0.lt
  have q1 := G2.ext O0.2
  refine qS X0 hx hby hZ hown (host := "") (Or.inl (wh hw 165 rfl)) Via.refl e0 q1 d31_0 (fun T2 X2 e2 => ?_)
  refine q_ifYes (pc := 3) X2 hx hby d31_3 (pc' := 28) ((if0 _ _).trans (feq (show ¬ ((1 : Int32) = (0 : Int32)) from by decide)).2) (by decide) (by decide) ?_
  refine q_iloadN X2 hx hby d31_28 rfl ?_
  refine q_iconst X2 hx hby d31_29 ?_
  refine gg (fun t k => XS.ishl X2.here hx rfl (hb hby d31_30) rfl k) ?_
  show own_Goes p e below (T2.setTop (mkF m 31 #[vR xb, vI 1, vI xi] [(.int ((1 : Int32) <<< ((1 : Int32) &&& 31)))])) _
  rw [show ((1 : Int32) <<< ((1 : Int32) &&& 31)) = (2 : Int32) from by decide]
  refine q_istoreN X2 hx hby d31_31 (l' := #[vR xb, vI 2, vI xi]) rfl ?_
  refine q_aloadN X2 hx hby d31_32 rfl rfl ?_
  refine q_iloadN X2 hx hby d31_33 rfl ?_
  refine gg (fun t k => XS.iinc X2.here hx rfl (hb hby d31_34) rfl (l' := #[vR xb, vI ((2 : Int32) + (1 : Int32)), vI xi]) rfl k) ?_
  show own_Goes p e below (T2.setTop (mkF m 37 #[vR xb, vI ((2 : Int32) + (1 : Int32)), vI xi] [.int 2, .ref xb])) _
  rw [show ((2 : Int32) + (1 : Int32)) = (3 : Int32) from by decide]
  refine q_iloadN X2 hx hby d31_37 rfl ?_
  have q3 := G3.ext O0.2
  refine qS X2 hx hby hZ hown (host := "") (Or.inl (wh hw 166 rfl)) Via.refl e2 q3 d31_38 (fun T4 X4 e4 => ?_)
  refine gg (fun t k => XS.ishr X4.here hx rfl (hb hby d31_41) rfl k) ?_
  show own_Goes p e below (T4.setTop (mkF m 42 #[vR xb, vI 3, vI xi] [(.int (xi >>> ((0 : Int32) &&& 31))), .int 2, .ref xb])) _
  rw [show (xi >>> ((0 : Int32) &&& 31)) = xi from own_sh0 xi]
  refine gg (fun t k => XS.i2b X4.here hx rfl (hb hby d31_42) rfl k) ?_
  refine q_stB X4 hx hby hZ e4 P0 2 d31_43 (fun T6 h6 X6 e6 W6 V6 => ?_)
  have O7 := O0.wr W6 (show n0 ≤ xb by omega)
  have sz8 : h6.size = h0.size := Wr.size W6
  have K9 := K0.wr W6 (Or.inl (List.mem_of_getElem? (i := 0) rfl))
  have N6 := Fr.snoc X6 N0 (show n0 ≤ xb by omega)
  have V6 : Arv Z h6 xb xq .byte (4 : Int32) [.int y0, .int y1, (.int ((xi.toInt8.toInt32).toInt8.toInt32)), .int y3] (.int 0) := V6
  rw [show ((xi.toInt8.toInt32).toInt8.toInt32) = (xi.toInt8.toInt32) from own_i8i8 _] at V6
  refine q_aloadN X6 hx hby d31_44 rfl rfl ?_
  refine q_iloadN X6 hx hby d31_45 rfl ?_
  refine q_iloadN X6 hx hby d31_46 rfl ?_
  have q10 := G4.ext O7.2
  refine qS X6 hx hby hZ hown (host := "") (Or.inl (wh hw 167 rfl)) Via.refl e6 q10 d31_47 (fun T11 X11 e11 => ?_)
  refine gg (fun t k => XS.ishr X11.here hx rfl (hb hby d31_50) rfl k) ?_
  refine gg (fun t k => XS.i2b X11.here hx rfl (hb hby d31_51) rfl k) ?_
  refine q_stB X11 hx hby hZ e11 V6 3 d31_52 (fun T13 h13 X13 e13 W13 V13 => ?_)
  have O14 := O7.wr W13 (show n0 ≤ xb by omega)
  have sz15 : h13.size = h6.size := Wr.size W13
  have K16 := K9.wr W13 (Or.inl (List.mem_of_getElem? (i := 0) rfl))
  have N13 := Fr.snoc X13 N6 (show n0 ≤ xb by omega)
  have V13 : Arv Z h13 xb xq .byte (4 : Int32) [.int y0, .int y1, (.int (xi.toInt8.toInt32)), (.int (((xi >>> ((8 : Int32) &&& 31)).toInt8.toInt32).toInt8.toInt32))] (.int 0) := V13
  rw [show (((xi >>> ((8 : Int32) &&& 31)).toInt8.toInt32).toInt8.toInt32) = ((xi >>> ((8 : Int32) &&& 31)).toInt8.toInt32) from own_i8i8 _] at V13
  refine r_V X13 hx hby hret hlk d31_53 e13 ?_
  exact ⟨N13, K16, rfl, V13⟩
theorem own_ef_own_gc2_1 (m : MethodId) (xb : Addr) : entryFrame m #[.ref xb, .int 1] 2 = mkF m 0 #[vR xb, vI 1] [] := by first | (simp [entryFrame, mkF, argsToLocals, Value.category]; done) | rfl
def Q_own_gc2_1 (Z : State) (xb : Addr) (xq : ClassId) (y0 : Int32) (y1 : Int32) (y2 : Int32) (y3 : Int32) (gz : Int32) (gfm : Value) (gwC : Addr) (gwM : Addr) (h0 : Heap) (n0 : Nat) (v : Option Value) (h : Heap) (L : List Loc) : Prop := Fr n0 L ∧ h = h0 ∧ v = some (.int ((((y2 &&& (255 : Int32)) <<< ((0 : Int32) &&& 31)) ||| ((y3 &&& (255 : Int32)) <<< ((8 : Int32) &&& 31))).toUInt32.toUInt16.toUInt32.toInt32))
theorem own_gc2_1 (l : Launch) (Z : State) (a0 : Array Value) (hw : ∀ d ∈ tables_1, d.before a0 Z = true) (ws : List Jvm.Cond) (xb : Addr) (xq : ClassId) (y0 : Int32) (y1 : Int32) (y2 : Int32) (y3 : Int32) (h0 : Heap) (n0 : Nat) (O0 : Old Z n0 h0) (gz : Int32) (gfm : Value) (gwC : Addr) (gwM : Addr) (G : GG Z gz gfm gwC gwM) (P0 : Arv Z h0 xb xq .byte (4 : Int32) [.int y0, .int y1, .int y2, .int y3] (.int 0)) : own_Met l Z (⟨"java/lang/StringUTF16", "getChar", "([BI)C"⟩ : MethodName) jdk_52_method_5_code 2 (some .char) ws ({ frames := 0, cells := 0, slots := 0, locals := 0 } : Room) #[.ref xb, .int 1] h0 (Q_own_gc2_1 Z xb xq y0 y1 y2 y3 gz gfm gwC gwM h0 n0) := by
  refine own_mk (plainFor_of_name own_pn_java_lang_StringUTF16) O0 ?_
  intro p e s m below meth c s₁ hx hby hml hZ hown hnm hlk hret X0 e0 N0 z0 z1
  refine own_cast (own_ef_own_gc2_1 m xb) ?_
  show own_Goes p e below (s₁.setTop (mkF m 0 #[vR xb, vI 1] [])) _
  obtain ⟨G0, G1, G2, G3, G4, G5, G6, G7, G8, G9, G10, G11⟩ := id G
  have ltG8 : @LT.lt Nat _ gwC Z.heap.size := G8.lt
  have ltG10 : @LT.lt Nat _ gwM Z.heap.size := G10.lt
  have ltP0 : @LT.lt Nat _ xb h0.size := P0.lt
  have q1 := G2.ext O0.2
  refine qS X0 hx hby hZ hown (host := "") (Or.inl (wh hw 165 rfl)) Via.refl e0 q1 d32_0 (fun T2 X2 e2 => ?_)
  refine q_ifYes (pc := 3) X2 hx hby d32_3 (pc' := 28) ((if0 _ _).trans (feq (show ¬ ((1 : Int32) = (0 : Int32)) from by decide)).2) (by decide) (by decide) ?_
  refine q_iloadN X2 hx hby d32_28 rfl ?_
  refine q_iconst X2 hx hby d32_29 ?_
  refine gg (fun t k => XS.ishl X2.here hx rfl (hb hby d32_30) rfl k) ?_
  show own_Goes p e below (T2.setTop (mkF m 31 #[vR xb, vI 1] [(.int ((1 : Int32) <<< ((1 : Int32) &&& 31)))])) _
  rw [show ((1 : Int32) <<< ((1 : Int32) &&& 31)) = (2 : Int32) from by decide]
  refine q_istoreN X2 hx hby d32_31 (l' := #[vR xb, vI 2]) rfl ?_
  refine q_aloadN X2 hx hby d32_32 rfl rfl ?_
  refine q_iloadN X2 hx hby d32_33 rfl ?_
  refine gg (fun t k => XS.iinc X2.here hx rfl (hb hby d32_34) rfl (l' := #[vR xb, vI ((2 : Int32) + (1 : Int32))]) rfl k) ?_
  show own_Goes p e below (T2.setTop (mkF m 37 #[vR xb, vI ((2 : Int32) + (1 : Int32))] [.int 2, .ref xb])) _
  rw [show ((2 : Int32) + (1 : Int32)) = (3 : Int32) from by decide]
  refine q_baloadBytes X2 hx hby hZ e2 P0 d32_37 (.int y2) ?_
  refine q_sipush X2 hx hby d32_38 ?_
  refine q_iand X2 hx hby d32_41 ?_
  have q4 := G3.ext O0.2
  refine qS X2 hx hby hZ hown (host := "") (Or.inl (wh hw 166 rfl)) Via.refl e2 q4 d32_42 (fun T5 X5 e5 => ?_)
  refine gg (fun t k => XS.ishl X5.here hx rfl (hb hby d32_45) rfl k) ?_
  refine q_aloadN X5 hx hby d32_46 rfl rfl ?_
  refine q_iloadN X5 hx hby d32_47 rfl ?_
  refine q_baloadBytes X5 hx hby hZ e5 P0 d32_48 (.int y3) ?_
  refine q_sipush X5 hx hby d32_49 ?_
  refine q_iand X5 hx hby d32_52 ?_
  have q7 := G4.ext O0.2
  refine qS X5 hx hby hZ hown (host := "") (Or.inl (wh hw 167 rfl)) Via.refl e5 q7 d32_53 (fun T8 X8 e8 => ?_)
  refine gg (fun t k => XS.ishl X8.here hx rfl (hb hby d32_56) rfl k) ?_
  refine gg (fun t k => XS.ior X8.here hx rfl (hb hby d32_57) rfl k) ?_
  refine gg (fun t k => XS.i2c X8.here hx rfl (hb hby d32_58) rfl k) ?_
  show own_Goes p e below (T8.setTop (mkF m 59 #[vR xb, vI 3] [(.int ((((y2 &&& (255 : Int32)) <<< ((0 : Int32) &&& 31)) ||| ((y3 &&& (255 : Int32)) <<< ((8 : Int32) &&& 31))).toUInt32.toUInt16.toUInt32.toInt32))])) _
  refine r_C X8 hx hby hret hlk d32_59 e8 ?_ (hn := (own_narr16 (own_C16i _)))
  exact ⟨N0, rfl, rfl⟩
theorem own_ef_own_toBy2 (m : MethodId) (xc : Addr) : entryFrame m #[.ref xc, .int 0, .int 2] 5 = mkF m 0 #[vR xc, vI 0, vI 2, uS, uS] [] := by first | (simp [entryFrame, mkF, argsToLocals, Value.category]; done) | rfl
def Q_own_toBy2 (Z : State) (xc : Addr) (xk : ClassId) (c0 : Int32) (c1 : Int32) (gz : Int32) (gfm : Value) (gwC : Addr) (gwM : Addr) (h0 : Heap) (n0 : Nat) (v : Option Value) (h : Heap) (L : List Loc) : Prop := Fr n0 L ∧ Keep h0 h [] ∧ ∃ (r : Addr), ∃ (rk : ClassId), v = some (.ref r) ∧ Arv Z h r rk .byte (4 : Int32) [(.int (c0.toInt8.toInt32)), (.int ((c0 >>> ((8 : Int32) &&& 31)).toInt8.toInt32)), (.int (c1.toInt8.toInt32)), (.int ((c1 >>> ((8 : Int32) &&& 31)).toInt8.toInt32))] (.int 0) ∧ h0.size ≤ r
theorem own_toBy2 (l : Launch) (Z : State) (a0 : Array Value) (hw : ∀ d ∈ tables_1, d.before a0 Z = true) (ws : List Jvm.Cond) (xc : Addr) (xk : ClassId) (c0 : Int32) (c1 : Int32) (h0 : Heap) (n0 : Nat) (O0 : Old Z n0 h0) (gz : Int32) (gfm : Value) (gwC : Addr) (gwM : Addr) (G : GG Z gz gfm gwC gwM) (P0 : Arv Z h0 xc xk .char (2 : Int32) [.int c0, .int c1] (.int 0)) : own_Met l Z (⟨"java/lang/StringUTF16", "toBytes", "([CII)[B"⟩ : MethodName) jdk_52_method_14_code 5 (some (.array .byte)) ws ({ frames := 2, cells := 1, slots := 4, locals := 24 } : Room) #[.ref xc, .int 0, .int 2] h0 (Q_own_toBy2 Z xc xk c0 c1 gz gfm gwC gwM h0 n0) := by
  refine own_mk (plainFor_of_name own_pn_java_lang_StringUTF16) O0 ?_
  intro p e s m below meth c s₁ hx hby hml hZ hown hnm hlk hret X0 e0 N0 z0 z1
  have K0 : Keep h0 h0 [] := Keep.refl _ _
  refine own_cast (own_ef_own_toBy2 m xc) ?_
  show own_Goes p e below (s₁.setTop (mkF m 0 #[vR xc, vI 0, vI 2, uS, uS] [])) _
  obtain ⟨G0, G1, G2, G3, G4, G5, G6, G7, G8, G9, G10, G11⟩ := id G
  have ltG8 : @LT.lt Nat _ gwC Z.heap.size := G8.lt
  have ltG10 : @LT.lt Nat _ gwM Z.heap.size := G10.lt
  have ltP0 : @LT.lt Nat _ xc h0.size := P0.lt
  refine q_iloadN X0 hx hby d28_0 rfl ?_
  refine k_S X0 hx hby hZ hown (wh hw 155 rfl) (wh hw 156 rfl) (W := 0) (own_nbf2 l Z a0 hw []  h0 n0 O0) (wh hw 157 rfl) (wh hw 29 rfl) e0  hml (argsL := [.int 2]) (rest := []) own_pd_1 d28_1 (fun _ T1 L1 X1 hQ1 => ?_)
  obtain ⟨h1, e1⟩ : ∃ z, T1.heap = z := ⟨_, rfl⟩
  rw [e1] at hQ1
  obtain ⟨Nc1, Kc1, r_1, rk_1, rfl, c1_0, c1_1⟩ := hQ1
  have N1 := Fr.app N0 Nc1
  have O2 := O0.keep Kc1 all0
  have sz3 : h0.size ≤ h1.size := Kc1.1
  have K4 := Keep.trans K0 Kc1 all0
  have ltc1_0 : @LT.lt Nat _ r_1 h1.size := c1_0.lt
  refine q_astoreN X1 hx hby d28_4 rfl (l' := #[vR xc, vI 0, vI 2, vR r_1, uS]) rfl ?_
  refine q_iconst X1 hx hby d28_5 ?_
  refine q_istore X1 hx hby d28_6 (l' := #[vR xc, vI 0, vI 2, vR r_1, vI 0]) rfl ?_
  refine q_iload X1 hx hby d28_8 rfl ?_
  refine q_iloadN X1 hx hby d28_10 rfl ?_
  refine q_icmpNo X1 hx hby d28_11 (tlt (show ((0 : Int32) < (2 : Int32)) from by decide)).2.1 ?_
  refine q_aloadN X1 hx hby d28_14 rfl rfl ?_
  refine q_iload X1 hx hby d28_15 rfl ?_
  refine q_aloadN X1 hx hby d28_17 rfl rfl ?_
  refine q_iloadN X1 hx hby d28_18 rfl ?_
  have f5 := (P0.keep Kc1 nin0)
  refine q_caload X1 hx hby hZ e1 f5 d28_19 (.int c0) ?_
  refine k_S X1 hx hby hZ hown (wh hw 162 rfl) (wh hw 163 rfl) (W := 0) (own_pc2_0 l Z a0 hw [] r_1 rk_1 c0 (0 : Int32) (0 : Int32) (0 : Int32) (0 : Int32) h1 n0 O2 gz gfm gwC gwM G c1_0 (show n0 ≤ r_1 by first | assumption | omega | decide)) (wh hw 164 rfl) (wh hw 29 rfl) e1  hml (argsL := [.ref r_1, .int 0, .int c0]) (rest := []) own_pd_2 d28_20 (fun _ T7 L7 X7 hQ7 => ?_)
  obtain ⟨h7, e7⟩ : ∃ z, T7.heap = z := ⟨_, rfl⟩
  rw [e7] at hQ7
  obtain ⟨Nc7, Kc7, rfl, c7_0⟩ := hQ7
  have N7 := Fr.app N1 Nc7
  have O8 := O2.keep Kc7 (allS (show n0 ≤ r_1 by omega) all0)
  have sz9 : h1.size ≤ h7.size := Kc7.1
  have K10 := Keep.trans K4 Kc7 (allS (Or.inr (show h0.size ≤ r_1 by omega)) all0)
  have ltc7_0 : @LT.lt Nat _ r_1 h7.size := c7_0.lt
  show own_Goes p e below (T7.setTop (mkF m 23 #[vR xc, vI 0, vI 2, vR r_1, vI 0] [])) _
  refine gg (fun t k => XS.iinc X7.here hx rfl (hb hby d28_23) rfl (l' := #[vR xc, vI ((0 : Int32) + (1 : Int32)), vI 2, vR r_1, vI 0]) rfl k) ?_
  show own_Goes p e below (T7.setTop (mkF m 26 #[vR xc, vI ((0 : Int32) + (1 : Int32)), vI 2, vR r_1, vI 0] [])) _
  rw [show ((0 : Int32) + (1 : Int32)) = (1 : Int32) from by decide]
  refine gg (fun t k => XS.iinc X7.here hx rfl (hb hby d28_26) rfl (l' := #[vR xc, vI 1, vI 2, vR r_1, vI ((0 : Int32) + (1 : Int32))]) rfl k) ?_
  show own_Goes p e below (T7.setTop (mkF m 29 #[vR xc, vI 1, vI 2, vR r_1, vI ((0 : Int32) + (1 : Int32))] [])) _
  rw [show ((0 : Int32) + (1 : Int32)) = (1 : Int32) from by decide]
  refine q_goto (pc := 29) X7 hx hby d28_29 (pc' := 8) (by decide) (by decide) ?_
  refine q_iload X7 hx hby d28_8 rfl ?_
  refine q_iloadN X7 hx hby d28_10 rfl ?_
  refine q_icmpNo X7 hx hby d28_11 (tlt (show ((1 : Int32) < (2 : Int32)) from by decide)).2.1 ?_
  refine q_aloadN X7 hx hby d28_14 rfl rfl ?_
  refine q_iload X7 hx hby d28_15 rfl ?_
  refine q_aloadN X7 hx hby d28_17 rfl rfl ?_
  refine q_iloadN X7 hx hby d28_18 rfl ?_
  have f11 := (f5.keep Kc7 (ninS (nE xc r_1 (by omega)) nin0))
  refine q_caload X7 hx hby hZ e7 f11 d28_19 (.int c1) ?_
  refine k_S X7 hx hby hZ hown (wh hw 162 rfl) (wh hw 163 rfl) (W := 0) (own_pc2_1 l Z a0 hw [] r_1 rk_1 c1 (c0.toInt8.toInt32) ((c0 >>> ((8 : Int32) &&& 31)).toInt8.toInt32) (0 : Int32) (0 : Int32) h7 n0 O8 gz gfm gwC gwM G c7_0 (show n0 ≤ r_1 by first | assumption | omega | decide)) (wh hw 164 rfl) (wh hw 29 rfl) e7  hml (argsL := [.ref r_1, .int 1, .int c1]) (rest := []) own_pd_2 d28_20 (fun _ T13 L13 X13 hQ13 => ?_)
  obtain ⟨h13, e13⟩ : ∃ z, T13.heap = z := ⟨_, rfl⟩
  rw [e13] at hQ13
  obtain ⟨Nc13, Kc13, rfl, c13_0⟩ := hQ13
  have N13 := Fr.app N7 Nc13
  have O14 := O8.keep Kc13 (allS (show n0 ≤ r_1 by omega) all0)
  have sz15 : h7.size ≤ h13.size := Kc13.1
  have K16 := Keep.trans K10 Kc13 (allS (Or.inr (show h0.size ≤ r_1 by omega)) all0)
  have ltc13_0 : @LT.lt Nat _ r_1 h13.size := c13_0.lt
  refine gg (fun t k => XS.iinc X13.here hx rfl (hb hby d28_23) rfl (l' := #[vR xc, vI ((1 : Int32) + (1 : Int32)), vI 2, vR r_1, vI 1]) rfl k) ?_
  show own_Goes p e below (T13.setTop (mkF m 26 #[vR xc, vI ((1 : Int32) + (1 : Int32)), vI 2, vR r_1, vI 1] [])) _
  rw [show ((1 : Int32) + (1 : Int32)) = (2 : Int32) from by decide]
  refine gg (fun t k => XS.iinc X13.here hx rfl (hb hby d28_26) rfl (l' := #[vR xc, vI 2, vI 2, vR r_1, vI ((1 : Int32) + (1 : Int32))]) rfl k) ?_
  show own_Goes p e below (T13.setTop (mkF m 29 #[vR xc, vI 2, vI 2, vR r_1, vI ((1 : Int32) + (1 : Int32))] [])) _
  rw [show ((1 : Int32) + (1 : Int32)) = (2 : Int32) from by decide]
  refine q_goto (pc := 29) X13 hx hby d28_29 (pc' := 8) (by decide) (by decide) ?_
  refine q_iload X13 hx hby d28_8 rfl ?_
  refine q_iloadN X13 hx hby d28_10 rfl ?_
  refine q_icmpYes (pc := 11) X13 hx hby d28_11 (pc' := 32) (flt (show ¬ ((2 : Int32) < (2 : Int32)) from by decide)).2.1 (by decide) (by decide) ?_
  refine q_aloadN X13 hx hby d28_32 rfl rfl ?_
  refine r_R X13 hx hby hret hlk d28_33 e13 ?_
  exact ⟨N13, K16, r_1, rk_1, rfl, c13_0, (show h0.size ≤ r_1 by first | assumption | omega | decide)⟩
theorem own_ef_own_ci2 (m : MethodId) (xc : Addr) (xb : Addr) : entryFrame m #[.ref xc, .int 0, .ref xb, .int 0, .int 2] 7 = mkF m 0 #[vR xc, vI 0, vR xb, vI 0, vI 2, uS, uS] [] := by first | (simp [entryFrame, mkF, argsToLocals, Value.category]; done) | rfl
def Q_own_ci2 (Z : State) (xc : Addr) (xk : ClassId) (xb : Addr) (xq : ClassId) (c0 : Int32) (c1 : Int32) (h0 : Heap) (n0 : Nat) (v : Option Value) (h : Heap) (L : List Loc) : Prop := Fr n0 L ∧ Keep h0 h [xb] ∧ ∃ (r : Int32), ∃ (y0 : Int32), ∃ (y1 : Int32), v = some (.int r) ∧ Arv Z h xb xq .byte (2 : Int32) [.int y0, .int y1] (.int 0) ∧ ((r = (2 : Int32) ∧ y0 = (c0.toInt8.toInt32) ∧ y1 = (c1.toInt8.toInt32) ∧ ¬ (255 : Int32) < c0 ∧ ¬ (255 : Int32) < c1) ∨ (r = (0 : Int32) ∧ (255 : Int32) < c0) ∨ (r = (1 : Int32) ∧ (255 : Int32) < c1))
theorem own_ci2 (l : Launch) (Z : State) (a0 : Array Value) (hw : ∀ d ∈ tables_1, d.before a0 Z = true) (ws : List Jvm.Cond) (xc : Addr) (xk : ClassId) (xb : Addr) (xq : ClassId) (c0 : Int32) (c1 : Int32) (h0 : Heap) (n0 : Nat) (O0 : Old Z n0 h0) (P0 : Arv Z h0 xc xk .char (2 : Int32) [.int c0, .int c1] (.int 0)) (P1 : Arv Z h0 xb xq .byte (2 : Int32) [.int 0, .int 0] (.int 0)) (P2 : @LT.lt Nat _ xc xb) (P3 : n0 ≤ xb) : own_Met l Z (⟨"java/lang/StringUTF16", "compress", "([CI[BII)I"⟩ : MethodName) jdk_52_method_21_code 7 (some .int) ws ({ frames := 0, cells := 0, slots := 0, locals := 0 } : Room) #[.ref xc, .int 0, .ref xb, .int 0, .int 2] h0 (Q_own_ci2 Z xc xk xb xq c0 c1 h0 n0) := by
  refine own_mk (plainFor_of_name own_pn_java_lang_StringUTF16) O0 ?_
  intro p e s m below meth c s₁ hx hby hml hZ hown hnm hlk hret X0 e0 N0 z0 z1
  have K0 : Keep h0 h0 [xb] := Keep.refl _ _
  refine own_cast (own_ef_own_ci2 m xc xb) ?_
  show own_Goes p e below (s₁.setTop (mkF m 0 #[vR xc, vI 0, vR xb, vI 0, vI 2, uS, uS] [])) _
  have ltP0 : @LT.lt Nat _ xc h0.size := P0.lt
  have ltP1 : @LT.lt Nat _ xb h0.size := P1.lt
  refine q_iconst X0 hx hby d6_0 ?_
  refine q_istore X0 hx hby d6_1 (l' := #[vR xc, vI 0, vR xb, vI 0, vI 2, vI 0, uS]) rfl ?_
  refine q_iload X0 hx hby d6_3 rfl ?_
  refine q_iload X0 hx hby d6_5 rfl ?_
  refine q_icmpNo X0 hx hby d6_7 (tlt (show ((0 : Int32) < (2 : Int32)) from by decide)).2.1 ?_
  refine q_aloadN X0 hx hby d6_10 rfl rfl ?_
  refine q_iloadN X0 hx hby d6_11 rfl ?_
  refine q_caload X0 hx hby hZ e0 P0 d6_12 (.int c0) ?_
  refine q_istore X0 hx hby d6_13 (l' := #[vR xc, vI 0, vR xb, vI 0, vI 2, vI 0, vI c0]) rfl ?_
  refine q_iload X0 hx hby d6_15 rfl ?_
  refine q_sipush X0 hx hby d6_17 ?_
  by_cases hc2 : (255 : Int32) < c0
  · refine q_icmpNo X0 hx hby d6_20 (tlt hc2).2.2.2 ?_
    refine q_iload X0 hx hby d6_23 rfl ?_
    refine r_I X0 hx hby hret hlk d6_25 e0 ?_
    exact ⟨N0, K0, (0 : Int32), (0 : Int32), (0 : Int32), rfl, P1, (Or.inr (Or.inl ⟨rfl, hc2⟩))⟩
  · refine q_icmpYes (pc := 20) X0 hx hby d6_20 (pc' := 26) (flt hc2).2.2.2 (by decide) (by decide) ?_
    show own_Goes p e below (s₁.setTop (mkF m 26 #[vR xc, vI 0, vR xb, vI 0, vI 2, vI 0, vI c0] [])) _
    refine q_aloadN X0 hx hby d6_26 rfl rfl ?_
    refine q_iloadN X0 hx hby d6_27 rfl ?_
    refine q_iload X0 hx hby d6_28 rfl ?_
    refine gg (fun t k => XS.i2b X0.here hx rfl (hb hby d6_30) rfl k) ?_
    refine q_stB X0 hx hby hZ e0 P1 0 d6_31 (fun T4 h4 X4 e4 W4 V4 => ?_)
    have O5 := O0.wr W4 (show n0 ≤ xb by omega)
    have sz6 : h4.size = h0.size := Wr.size W4
    have K7 := K0.wr W4 (Or.inl (List.mem_of_getElem? (i := 0) rfl))
    have N4 := Fr.snoc X4 N0 (show n0 ≤ xb by omega)
    have V4 : Arv Z h4 xb xq .byte (2 : Int32) [(.int ((c0.toInt8.toInt32).toInt8.toInt32)), .int 0] (.int 0) := V4
    rw [show ((c0.toInt8.toInt32).toInt8.toInt32) = (c0.toInt8.toInt32) from own_i8i8 _] at V4
    refine gg (fun t k => XS.iinc X4.here hx rfl (hb hby d6_32) rfl (l' := #[vR xc, vI ((0 : Int32) + (1 : Int32)), vR xb, vI 0, vI 2, vI 0, vI c0]) rfl k) ?_
    show own_Goes p e below (T4.setTop (mkF m 35 #[vR xc, vI ((0 : Int32) + (1 : Int32)), vR xb, vI 0, vI 2, vI 0, vI c0] [])) _
    rw [show ((0 : Int32) + (1 : Int32)) = (1 : Int32) from by decide]
    refine gg (fun t k => XS.iinc X4.here hx rfl (hb hby d6_35) rfl (l' := #[vR xc, vI 1, vR xb, vI ((0 : Int32) + (1 : Int32)), vI 2, vI 0, vI c0]) rfl k) ?_
    show own_Goes p e below (T4.setTop (mkF m 38 #[vR xc, vI 1, vR xb, vI ((0 : Int32) + (1 : Int32)), vI 2, vI 0, vI c0] [])) _
    rw [show ((0 : Int32) + (1 : Int32)) = (1 : Int32) from by decide]
    refine gg (fun t k => XS.iinc X4.here hx rfl (hb hby d6_38) rfl (l' := #[vR xc, vI 1, vR xb, vI 1, vI 2, vI ((0 : Int32) + (1 : Int32)), vI c0]) rfl k) ?_
    show own_Goes p e below (T4.setTop (mkF m 41 #[vR xc, vI 1, vR xb, vI 1, vI 2, vI ((0 : Int32) + (1 : Int32)), vI c0] [])) _
    rw [show ((0 : Int32) + (1 : Int32)) = (1 : Int32) from by decide]
    refine q_goto (pc := 41) X4 hx hby d6_41 (pc' := 3) (by decide) (by decide) ?_
    refine q_iload X4 hx hby d6_3 rfl ?_
    refine q_iload X4 hx hby d6_5 rfl ?_
    refine q_icmpNo X4 hx hby d6_7 (tlt (show ((1 : Int32) < (2 : Int32)) from by decide)).2.1 ?_
    refine q_aloadN X4 hx hby d6_10 rfl rfl ?_
    refine q_iloadN X4 hx hby d6_11 rfl ?_
    have f8 := (P0.other W4 (nE xc xb (by omega)))
    refine q_caload X4 hx hby hZ e4 f8 d6_12 (.int c1) ?_
    refine q_istore X4 hx hby d6_13 (l' := #[vR xc, vI 1, vR xb, vI 1, vI 2, vI 1, vI c1]) rfl ?_
    refine q_iload X4 hx hby d6_15 rfl ?_
    refine q_sipush X4 hx hby d6_17 ?_
    by_cases hc10 : (255 : Int32) < c1
    · refine q_icmpNo X4 hx hby d6_20 (tlt hc10).2.2.2 ?_
      refine q_iload X4 hx hby d6_23 rfl ?_
      refine r_I X4 hx hby hret hlk d6_25 e4 ?_
      exact ⟨N4, K7, (1 : Int32), (c0.toInt8.toInt32), (0 : Int32), rfl, V4, (Or.inr (Or.inr ⟨rfl, hc10⟩))⟩
    · refine q_icmpYes (pc := 20) X4 hx hby d6_20 (pc' := 26) (flt hc10).2.2.2 (by decide) (by decide) ?_
      refine q_aloadN X4 hx hby d6_26 rfl rfl ?_
      show own_Goes p e below (T4.setTop (mkF m 27 #[vR xc, vI 1, vR xb, vI 1, vI 2, vI 1, vI c1] [.ref xb])) _
      refine q_iloadN X4 hx hby d6_27 rfl ?_
      refine q_iload X4 hx hby d6_28 rfl ?_
      refine gg (fun t k => XS.i2b X4.here hx rfl (hb hby d6_30) rfl k) ?_
      refine q_stB X4 hx hby hZ e4 V4 1 d6_31 (fun T12 h12 X12 e12 W12 V12 => ?_)
      have O13 := O5.wr W12 (show n0 ≤ xb by omega)
      have sz14 : h12.size = h4.size := Wr.size W12
      have K15 := K7.wr W12 (Or.inl (List.mem_of_getElem? (i := 0) rfl))
      have N12 := Fr.snoc X12 N4 (show n0 ≤ xb by omega)
      have V12 : Arv Z h12 xb xq .byte (2 : Int32) [(.int (c0.toInt8.toInt32)), (.int ((c1.toInt8.toInt32).toInt8.toInt32))] (.int 0) := V12
      rw [show ((c1.toInt8.toInt32).toInt8.toInt32) = (c1.toInt8.toInt32) from own_i8i8 _] at V12
      refine gg (fun t k => XS.iinc X12.here hx rfl (hb hby d6_32) rfl (l' := #[vR xc, vI ((1 : Int32) + (1 : Int32)), vR xb, vI 1, vI 2, vI 1, vI c1]) rfl k) ?_
      show own_Goes p e below (T12.setTop (mkF m 35 #[vR xc, vI ((1 : Int32) + (1 : Int32)), vR xb, vI 1, vI 2, vI 1, vI c1] [])) _
      rw [show ((1 : Int32) + (1 : Int32)) = (2 : Int32) from by decide]
      refine gg (fun t k => XS.iinc X12.here hx rfl (hb hby d6_35) rfl (l' := #[vR xc, vI 2, vR xb, vI ((1 : Int32) + (1 : Int32)), vI 2, vI 1, vI c1]) rfl k) ?_
      show own_Goes p e below (T12.setTop (mkF m 38 #[vR xc, vI 2, vR xb, vI ((1 : Int32) + (1 : Int32)), vI 2, vI 1, vI c1] [])) _
      rw [show ((1 : Int32) + (1 : Int32)) = (2 : Int32) from by decide]
      refine gg (fun t k => XS.iinc X12.here hx rfl (hb hby d6_38) rfl (l' := #[vR xc, vI 2, vR xb, vI 2, vI 2, vI ((1 : Int32) + (1 : Int32)), vI c1]) rfl k) ?_
      show own_Goes p e below (T12.setTop (mkF m 41 #[vR xc, vI 2, vR xb, vI 2, vI 2, vI ((1 : Int32) + (1 : Int32)), vI c1] [])) _
      rw [show ((1 : Int32) + (1 : Int32)) = (2 : Int32) from by decide]
      refine q_goto (pc := 41) X12 hx hby d6_41 (pc' := 3) (by decide) (by decide) ?_
      refine q_iload X12 hx hby d6_3 rfl ?_
      refine q_iload X12 hx hby d6_5 rfl ?_
      refine q_icmpYes (pc := 7) X12 hx hby d6_7 (pc' := 44) (flt (show ¬ ((2 : Int32) < (2 : Int32)) from by decide)).2.1 (by decide) (by decide) ?_
      refine q_iload X12 hx hby d6_44 rfl ?_
      refine r_I X12 hx hby hret hlk d6_46 e12 ?_
      exact ⟨N12, K15, (2 : Int32), (c0.toInt8.toInt32), (c1.toInt8.toInt32), rfl, V12, (Or.inl ⟨rfl, rfl, rfl, hc2, hc10⟩)⟩
theorem own_ef_own_co2 (m : MethodId) (xc : Addr) : entryFrame m #[.ref xc, .int 0, .int 2] 6 = mkF m 0 #[vR xc, vI 0, vI 2, uS, uS, uS] [] := by first | (simp [entryFrame, mkF, argsToLocals, Value.category]; done) | rfl
def Q_own_co2 (Z : State) (xc : Addr) (xk : ClassId) (c0 : Int32) (c1 : Int32) (gz : Int32) (gfm : Value) (gwC : Addr) (gwM : Addr) (h0 : Heap) (n0 : Nat) (v : Option Value) (h : Heap) (L : List Loc) : Prop := Fr n0 L ∧ Keep h0 h [] ∧ ∃ (r : Addr), v = some (.ref r) ∧ own_Cod Z h r ([c0, c1] : List Int32) ∧ h0.size ≤ r
theorem own_co2 (l : Launch) (Z : State) (a0 : Array Value) (hw : ∀ d ∈ tables_1, d.before a0 Z = true) (ws : List Jvm.Cond) (xc : Addr) (xk : ClassId) (c0 : Int32) (c1 : Int32) (h0 : Heap) (n0 : Nat) (O0 : Old Z n0 h0) (gz : Int32) (gfm : Value) (gwC : Addr) (gwM : Addr) (G : GG Z gz gfm gwC gwM) (P0 : Arv Z h0 xc xk .char (2 : Int32) [.int c0, .int c1] (.int 0)) (P1 : own_C16 c0) (P2 : own_C16 c1) : own_Met l Z (⟨"java/lang/StringUTF16", "compress", "([CII)[B"⟩ : MethodName) jdk_52_method_16_code 6 (some (.array .byte)) ws ({ frames := 3, cells := 2, slots := 6, locals := 40 } : Room) #[.ref xc, .int 0, .int 2] h0 (Q_own_co2 Z xc xk c0 c1 gz gfm gwC gwM h0 n0) := by
  refine own_mk (plainFor_of_name own_pn_java_lang_StringUTF16) O0 ?_
  intro p e s m below meth c s₁ hx hby hml hZ hown hnm hlk hret X0 e0 N0 z0 z1
  have K0 : Keep h0 h0 [] := Keep.refl _ _
  refine own_cast (own_ef_own_co2 m xc) ?_
  show own_Goes p e below (s₁.setTop (mkF m 0 #[vR xc, vI 0, vI 2, uS, uS, uS] [])) _
  obtain ⟨G0, G1, G2, G3, G4, G5, G6, G7, G8, G9, G10, G11⟩ := id G
  have ltG8 : @LT.lt Nat _ gwC Z.heap.size := G8.lt
  have ltG10 : @LT.lt Nat _ gwM Z.heap.size := G10.lt
  have ltP0 : @LT.lt Nat _ xc h0.size := P0.lt
  refine q_iloadN X0 hx hby d5_0 rfl ?_
  obtain ⟨T1, h1, k1, X1, e1, E1, A1, st1⟩ := newP X0 hx hZ (wh hw 19 rfl) e0 (g := (mkF m 1 #[vR xc, vI 0, vI 2, uS, uS, uS] [.int 2])) rfl (hb hby d5_1) rfl (by decide) (cap := 2) (by decide) (by decide) (by decide) (by decide)
  obtain ⟨b1, g1⟩ : ∃ z, z = h0.size := ⟨_, rfl⟩
  rw [← g1] at A1 st1
  refine gg st1 ?_
  have O2 := O0.ext E1
  have sz3 : h0.size ≤ h1.size := E1.1
  have K4 := K0.ext E1
  have l1 : @LT.lt Nat _ b1 h1.size := A1.lt
  have V1 : Arv Z h1 b1 k1 .byte (2 : Int32) [.int 0, .int 0] (.int 0) := (Arv.new A1 (by decide)).pad (pad_rep [] (.int 0) 2)
  refine q_astoreN X1 hx hby d5_3 rfl (l' := #[vR xc, vI 0, vI 2, vR b1, uS, uS]) rfl ?_
  refine q_aloadN X1 hx hby d5_4 rfl rfl ?_
  refine q_iloadN X1 hx hby d5_5 rfl ?_
  refine q_aloadN X1 hx hby d5_6 rfl rfl ?_
  refine q_iconst X1 hx hby d5_7 ?_
  refine q_iloadN X1 hx hby d5_8 rfl ?_
  have f5 := (P0.ext E1)
  refine k_S X1 hx hby hZ hown (wh hw 31 rfl) (wh hw 32 rfl) (W := 0) (own_ci2 l Z a0 hw [] xc xk b1 k1 c0 c1 h1 n0 O2 f5 V1 (show @LT.lt Nat _ xc b1 by first | assumption | omega | decide) (show n0 ≤ b1 by first | assumption | omega | decide)) (wh hw 33 rfl) (wh hw 29 rfl) e1  hml (argsL := [.ref xc, .int 0, .ref b1, .int 0, .int 2]) (rest := []) own_pd_3 d5_9 (fun _ T6 L6 X6 hQ6 => ?_)
  obtain ⟨h6, e6⟩ : ∃ z, T6.heap = z := ⟨_, rfl⟩
  rw [e6] at hQ6
  obtain ⟨Nc6, Kc6, r_6, y0_6, y1_6, rfl, c6_0, c6_1⟩ := hQ6
  have N6 := Fr.app N0 Nc6
  have O7 := O2.keep Kc6 (allS (show n0 ≤ b1 by omega) all0)
  have sz8 : h1.size ≤ h6.size := Kc6.1
  have K9 := Keep.trans K4 Kc6 (allS (Or.inr (show h0.size ≤ b1 by omega)) all0)
  have ltc6_0 : @LT.lt Nat _ b1 h6.size := c6_0.lt
  rcases c6_1 with ⟨rfl, rfl, rfl, hq10, hq11⟩ | ⟨rfl, hq10⟩ | ⟨rfl, hq11⟩
  · show own_Goes p e below (T6.setTop (mkF m 12 #[vR xc, vI 0, vI 2, vR b1, uS, uS] [.int 2])) _
    refine q_istore X6 hx hby d5_12 (l' := #[vR xc, vI 0, vI 2, vR b1, vI 2, uS]) rfl ?_
    refine q_iload X6 hx hby d5_14 rfl ?_
    refine q_iloadN X6 hx hby d5_16 rfl ?_
    refine q_icmpYes (pc := 17) X6 hx hby d5_17 (pc' := 57) (teq (show ((2 : Int32) = (2 : Int32)) from by decide)).1 (by decide) (by decide) ?_
    refine q_aloadN X6 hx hby d5_57 rfl rfl ?_
    refine r_R X6 hx hby hret hlk d5_58 e6 ?_
    exact ⟨N6, K9, b1, rfl, ⟨_, _, _, _, c6_0, Or.inl ⟨rfl, rfl, rfl, (own_alS hq10 (own_alS hq11 own_al0))⟩⟩, (show h0.size ≤ b1 by first | assumption | omega | decide)⟩
  · show own_Goes p e below (T6.setTop (mkF m 12 #[vR xc, vI 0, vI 2, vR b1, uS, uS] [.int 0])) _
    refine q_istore X6 hx hby d5_12 (l' := #[vR xc, vI 0, vI 2, vR b1, vI 0, uS]) rfl ?_
    refine q_iload X6 hx hby d5_14 rfl ?_
    refine q_iloadN X6 hx hby d5_16 rfl ?_
    refine q_icmpNo X6 hx hby d5_17 (feq (show ¬ ((0 : Int32) = (2 : Int32)) from by decide)).1 ?_
    refine q_aloadN X6 hx hby d5_20 rfl rfl ?_
    refine q_iloadN X6 hx hby d5_21 rfl ?_
    refine q_iloadN X6 hx hby d5_22 rfl ?_
    have f12 := (f5.keep Kc6 (ninS (nE xc b1 (by omega)) nin0))
    refine k_S X6 hx hby hZ hown (wh hw 152 rfl) (wh hw 153 rfl) (W := 0) (own_toBy2 l Z a0 hw [] xc xk c0 c1 h6 n0 O7 gz gfm gwC gwM G f12) (wh hw 154 rfl) (wh hw 29 rfl) e6  hml (argsL := [.ref xc, .int 0, .int 2]) (rest := []) own_pd_4 d5_23 (fun _ T13 L13 X13 hQ13 => ?_)
    obtain ⟨h13, e13⟩ : ∃ z, T13.heap = z := ⟨_, rfl⟩
    rw [e13] at hQ13
    obtain ⟨Nc13, Kc13, r_13, rk_13, rfl, c13_0, c13_1⟩ := hQ13
    have N13 := Fr.app N6 Nc13
    have O14 := O7.keep Kc13 all0
    have sz15 : h6.size ≤ h13.size := Kc13.1
    have K16 := Keep.trans K9 Kc13 all0
    have ltc13_0 : @LT.lt Nat _ r_13 h13.size := c13_0.lt
    refine q_astore X13 hx hby d5_26 rfl (l' := #[vR xc, vI 0, vI 2, vR b1, vI 0, vR r_13]) rfl ?_
    refine q_aload X13 hx hby d5_28 rfl rfl ?_
    refine q_iload X13 hx hby d5_30 rfl ?_
    refine k_S X13 hx hby hZ hown (wh hw 168 rfl) (wh hw 169 rfl) (W := 0) (own_gc2_0 l Z a0 hw [] r_13 rk_13 (c0.toInt8.toInt32) ((c0 >>> ((8 : Int32) &&& 31)).toInt8.toInt32) (c1.toInt8.toInt32) ((c1 >>> ((8 : Int32) &&& 31)).toInt8.toInt32) h13 n0 O14 gz gfm gwC gwM G c13_0) (wh hw 170 rfl) (wh hw 29 rfl) e13  hml (argsL := [.ref r_13, .int 0]) (rest := []) own_pd_5 d5_32 (fun _ T17 L17 X17 hQ17 => ?_)
    obtain ⟨Nc17, e17, rfl⟩ := hQ17
    have N17 := Fr.app N13 Nc17
    show own_Goes p e below (T17.setTop (mkF m 35 #[vR xc, vI 0, vI 2, vR b1, vI 0, vR r_13] [(.int (((((c0.toInt8.toInt32) &&& (255 : Int32)) <<< ((0 : Int32) &&& 31)) ||| ((((c0 >>> ((8 : Int32) &&& 31)).toInt8.toInt32) &&& (255 : Int32)) <<< ((8 : Int32) &&& 31))).toUInt32.toUInt16.toUInt32.toInt32))])) _
    rw [show (((((c0.toInt8.toInt32) &&& (255 : Int32)) <<< ((0 : Int32) &&& 31)) ||| ((((c0 >>> ((8 : Int32) &&& 31)).toInt8.toInt32) &&& (255 : Int32)) <<< ((8 : Int32) &&& 31))).toUInt32.toUInt16.toUInt32.toInt32) = c0 from own_g16 P1]
    refine q_sipush X17 hx hby d5_35 ?_
    refine q_icmpYes (pc := 38) X17 hx hby d5_38 (pc' := 54) (tlt hq10).2.2.1 (by decide) (by decide) ?_
    refine q_aload X17 hx hby d5_54 rfl rfl ?_
    refine r_R X17 hx hby hret hlk d5_56 e17 ?_
    exact ⟨N17, K16, r_13, rfl, ⟨_, _, _, _, c13_0, Or.inr ⟨rfl, rfl, rfl, c0, by simp, hq10⟩⟩, (show h0.size ≤ r_13 by first | assumption | omega | decide)⟩
  · show own_Goes p e below (T6.setTop (mkF m 12 #[vR xc, vI 0, vI 2, vR b1, uS, uS] [.int 1])) _
    refine q_istore X6 hx hby d5_12 (l' := #[vR xc, vI 0, vI 2, vR b1, vI 1, uS]) rfl ?_
    refine q_iload X6 hx hby d5_14 rfl ?_
    refine q_iloadN X6 hx hby d5_16 rfl ?_
    refine q_icmpNo X6 hx hby d5_17 (feq (show ¬ ((1 : Int32) = (2 : Int32)) from by decide)).1 ?_
    refine q_aloadN X6 hx hby d5_20 rfl rfl ?_
    refine q_iloadN X6 hx hby d5_21 rfl ?_
    refine q_iloadN X6 hx hby d5_22 rfl ?_
    have f18 := (f5.keep Kc6 (ninS (nE xc b1 (by omega)) nin0))
    refine k_S X6 hx hby hZ hown (wh hw 152 rfl) (wh hw 153 rfl) (W := 0) (own_toBy2 l Z a0 hw [] xc xk c0 c1 h6 n0 O7 gz gfm gwC gwM G f18) (wh hw 154 rfl) (wh hw 29 rfl) e6  hml (argsL := [.ref xc, .int 0, .int 2]) (rest := []) own_pd_4 d5_23 (fun _ T19 L19 X19 hQ19 => ?_)
    obtain ⟨h19, e19⟩ : ∃ z, T19.heap = z := ⟨_, rfl⟩
    rw [e19] at hQ19
    obtain ⟨Nc19, Kc19, r_19, rk_19, rfl, c19_0, c19_1⟩ := hQ19
    have N19 := Fr.app N6 Nc19
    have O20 := O7.keep Kc19 all0
    have sz21 : h6.size ≤ h19.size := Kc19.1
    have K22 := Keep.trans K9 Kc19 all0
    have ltc19_0 : @LT.lt Nat _ r_19 h19.size := c19_0.lt
    refine q_astore X19 hx hby d5_26 rfl (l' := #[vR xc, vI 0, vI 2, vR b1, vI 1, vR r_19]) rfl ?_
    refine q_aload X19 hx hby d5_28 rfl rfl ?_
    refine q_iload X19 hx hby d5_30 rfl ?_
    refine k_S X19 hx hby hZ hown (wh hw 168 rfl) (wh hw 169 rfl) (W := 0) (own_gc2_1 l Z a0 hw [] r_19 rk_19 (c0.toInt8.toInt32) ((c0 >>> ((8 : Int32) &&& 31)).toInt8.toInt32) (c1.toInt8.toInt32) ((c1 >>> ((8 : Int32) &&& 31)).toInt8.toInt32) h19 n0 O20 gz gfm gwC gwM G c19_0) (wh hw 170 rfl) (wh hw 29 rfl) e19  hml (argsL := [.ref r_19, .int 1]) (rest := []) own_pd_5 d5_32 (fun _ T23 L23 X23 hQ23 => ?_)
    obtain ⟨Nc23, e23, rfl⟩ := hQ23
    have N23 := Fr.app N19 Nc23
    show own_Goes p e below (T23.setTop (mkF m 35 #[vR xc, vI 0, vI 2, vR b1, vI 1, vR r_19] [(.int (((((c1.toInt8.toInt32) &&& (255 : Int32)) <<< ((0 : Int32) &&& 31)) ||| ((((c1 >>> ((8 : Int32) &&& 31)).toInt8.toInt32) &&& (255 : Int32)) <<< ((8 : Int32) &&& 31))).toUInt32.toUInt16.toUInt32.toInt32))])) _
    rw [show (((((c1.toInt8.toInt32) &&& (255 : Int32)) <<< ((0 : Int32) &&& 31)) ||| ((((c1 >>> ((8 : Int32) &&& 31)).toInt8.toInt32) &&& (255 : Int32)) <<< ((8 : Int32) &&& 31))).toUInt32.toUInt16.toUInt32.toInt32) = c1 from own_g16 P2]
    refine q_sipush X23 hx hby d5_35 ?_
    refine q_icmpYes (pc := 38) X23 hx hby d5_38 (pc' := 54) (tlt hq11).2.2.1 (by decide) (by decide) ?_
    refine q_aload X23 hx hby d5_54 rfl rfl ?_
    refine r_R X23 hx hby hret hlk d5_56 e23 ?_
    exact ⟨N23, K22, r_19, rfl, ⟨_, _, _, _, c19_0, Or.inr ⟨rfl, rfl, rfl, c1, by simp, hq11⟩⟩, (show h0.size ≤ r_19 by first | assumption | omega | decide)⟩
theorem own_ef_own_cfa2a (m : MethodId) (xb : Addr) : entryFrame m #[.ref xb, .int 2] 2 = mkF m 0 #[vR xb, vI 2] [] := by first | (simp [entryFrame, mkF, argsToLocals, Value.category]; done) | rfl
def Q_own_cfa2a (Z : State) (xb : Addr) (xq : ClassId) (y0 : Int32) (y1 : Int32) (h0 : Heap) (n0 : Nat) (v : Option Value) (h : Heap) (L : List Loc) : Prop := Fr n0 L ∧ h = h0 ∧ v = some (.int 0)
theorem own_cfa2a (l : Launch) (Z : State) (a0 : Array Value) (hw : ∀ d ∈ tables_1, d.before a0 Z = true) (ws : List Jvm.Cond) (xb : Addr) (xq : ClassId) (y0 : Int32) (y1 : Int32) (h0 : Heap) (n0 : Nat) (O0 : Old Z n0 h0) (P0 : Arv Z h0 xb xq .byte (2 : Int32) [.int y0, .int y1] (.int 0)) : own_Met l Z (⟨"java/lang/StringUTF16", "coderFromArrayLen", "([BI)B"⟩ : MethodName) jdk_52_method_15_code 2 (some .byte) ws ({ frames := 0, cells := 0, slots := 0, locals := 0 } : Room) #[.ref xb, .int 2] h0 (Q_own_cfa2a Z xb xq y0 y1 h0 n0) := by
  refine own_mk (plainFor_of_name own_pn_java_lang_StringUTF16) O0 ?_
  intro p e s m below meth c s₁ hx hby hml hZ hown hnm hlk hret X0 e0 N0 z0 z1
  refine own_cast (own_ef_own_cfa2a m xb) ?_
  show own_Goes p e below (s₁.setTop (mkF m 0 #[vR xb, vI 2] [])) _
  have ltP0 : @LT.lt Nat _ xb h0.size := P0.lt
  refine q_iloadN X0 hx hby d7_0 rfl ?_
  refine q_aloadN X0 hx hby d7_1 rfl rfl ?_
  refine q_len X0 hx hby hZ e0 P0 d7_2 ?_
  refine q_isub X0 hx hby d7_3 ?_
  show own_Goes p e below (s₁.setTop (mkF m 4 #[vR xb, vI 2] [(.int ((2 : Int32) - (2 : Int32)))])) _
  rw [show ((2 : Int32) - (2 : Int32)) = (0 : Int32) from by decide]
  refine q_bipush X0 hx hby d7_4 ?_
  refine gg (fun t k => XS.iushr X0.here hx rfl (hb hby d7_6) rfl k) ?_
  show own_Goes p e below (s₁.setTop (mkF m 7 #[vR xb, vI 2] [(.int (((0 : Int32).toUInt32 >>> ((31 : Int32) &&& 31).toUInt32).toInt32))])) _
  rw [show (((0 : Int32).toUInt32 >>> ((31 : Int32) &&& 31).toUInt32).toInt32) = (0 : Int32) from by decide]
  refine gg (fun t k => XS.i2b X0.here hx rfl (hb hby d7_7) rfl k) ?_
  show own_Goes p e below (s₁.setTop (mkF m 8 #[vR xb, vI 2] [(.int ((0 : Int32).toInt8.toInt32))])) _
  rw [show ((0 : Int32).toInt8.toInt32) = (0 : Int32) from by decide]
  refine r_B X0 hx hby hret hlk d7_8 e0 ?_
  exact ⟨N0, rfl, rfl⟩
theorem own_ef_own_cfa2b (m : MethodId) (xb : Addr) : entryFrame m #[.ref xb, .int 2] 2 = mkF m 0 #[vR xb, vI 2] [] := by first | (simp [entryFrame, mkF, argsToLocals, Value.category]; done) | rfl
def Q_own_cfa2b (Z : State) (xb : Addr) (xq : ClassId) (y0 : Int32) (y1 : Int32) (y2 : Int32) (y3 : Int32) (h0 : Heap) (n0 : Nat) (v : Option Value) (h : Heap) (L : List Loc) : Prop := Fr n0 L ∧ h = h0 ∧ v = some (.int 1)
theorem own_cfa2b (l : Launch) (Z : State) (a0 : Array Value) (hw : ∀ d ∈ tables_1, d.before a0 Z = true) (ws : List Jvm.Cond) (xb : Addr) (xq : ClassId) (y0 : Int32) (y1 : Int32) (y2 : Int32) (y3 : Int32) (h0 : Heap) (n0 : Nat) (O0 : Old Z n0 h0) (P0 : Arv Z h0 xb xq .byte (4 : Int32) [.int y0, .int y1, .int y2, .int y3] (.int 0)) : own_Met l Z (⟨"java/lang/StringUTF16", "coderFromArrayLen", "([BI)B"⟩ : MethodName) jdk_52_method_15_code 2 (some .byte) ws ({ frames := 0, cells := 0, slots := 0, locals := 0 } : Room) #[.ref xb, .int 2] h0 (Q_own_cfa2b Z xb xq y0 y1 y2 y3 h0 n0) := by
  refine own_mk (plainFor_of_name own_pn_java_lang_StringUTF16) O0 ?_
  intro p e s m below meth c s₁ hx hby hml hZ hown hnm hlk hret X0 e0 N0 z0 z1
  refine own_cast (own_ef_own_cfa2b m xb) ?_
  show own_Goes p e below (s₁.setTop (mkF m 0 #[vR xb, vI 2] [])) _
  have ltP0 : @LT.lt Nat _ xb h0.size := P0.lt
  refine q_iloadN X0 hx hby d7_0 rfl ?_
  refine q_aloadN X0 hx hby d7_1 rfl rfl ?_
  refine q_len X0 hx hby hZ e0 P0 d7_2 ?_
  refine q_isub X0 hx hby d7_3 ?_
  show own_Goes p e below (s₁.setTop (mkF m 4 #[vR xb, vI 2] [(.int ((2 : Int32) - (4 : Int32)))])) _
  rw [show ((2 : Int32) - (4 : Int32)) = (-2 : Int32) from by decide]
  refine q_bipush X0 hx hby d7_4 ?_
  refine gg (fun t k => XS.iushr X0.here hx rfl (hb hby d7_6) rfl k) ?_
  show own_Goes p e below (s₁.setTop (mkF m 7 #[vR xb, vI 2] [(.int (((-2 : Int32).toUInt32 >>> ((31 : Int32) &&& 31).toUInt32).toInt32))])) _
  rw [show (((-2 : Int32).toUInt32 >>> ((31 : Int32) &&& 31).toUInt32).toInt32) = (1 : Int32) from by decide]
  refine gg (fun t k => XS.i2b X0.here hx rfl (hb hby d7_7) rfl k) ?_
  show own_Goes p e below (s₁.setTop (mkF m 8 #[vR xb, vI 2] [(.int ((1 : Int32).toInt8.toInt32))])) _
  rw [show ((1 : Int32).toInt8.toInt32) = (1 : Int32) from by decide]
  refine r_B X0 hx hby hret hlk d7_8 e0 ?_
  exact ⟨N0, rfl, rfl⟩
theorem own_ef_own_si2 (m : MethodId) (xa : Addr) (xc : Addr) : entryFrame m #[.ref xa, .ref xc, .int 0, .int 2, .null] 6 = mkF m 0 #[vR xa, vR xc, vI 0, vI 2, vN, uS] [] := by first | (simp [entryFrame, mkF, argsToLocals, Value.category]; done) | rfl
def Q_own_si2 (Z : State) (xa : Addr) (xc : Addr) (xk : ClassId) (c0 : Int32) (c1 : Int32) (gz : Int32) (gfm : Value) (gwC : Addr) (gwM : Addr) (h0 : Heap) (n0 : Nat) (v : Option Value) (h : Heap) (L : List Loc) : Prop := Fr n0 L ∧ Keep h0 h [xa] ∧ ∃ (rb : Addr), v = none ∧ own_Str Z h xa rb ([c0, c1] : List Int32)
theorem own_si2 (l : Launch) (Z : State) (a0 : Array Value) (hw : ∀ d ∈ tables_1, d.before a0 Z = true) (ws : List Jvm.Cond) (xa : Addr) (xc : Addr) (xk : ClassId) (c0 : Int32) (c1 : Int32) (h0 : Heap) (n0 : Nat) (O0 : Old Z n0 h0) (gz : Int32) (gfm : Value) (gwC : Addr) (gwM : Addr) (G : GG Z gz gfm gwC gwM) (P0 : Exa Z h0 xa "java/lang/String") (P1 : Fld Z h0 xa "java/lang/String" "value" "[B" .null) (P2 : Fld Z h0 xa "java/lang/String" "coder" "B" (.int 0)) (P3 : n0 ≤ xa) (P4 : Arv Z h0 xc xk .char (2 : Int32) [.int c0, .int c1] (.int 0)) (P5 : (@LT.lt Nat _ xc xa ∨ @LT.lt Nat _ xa xc)) (P6 : own_C16 c0) (P7 : own_C16 c1) : own_Met l Z (⟨"java/lang/String", "<init>", "([CIILjava/lang/Void;)V"⟩ : MethodName) jdk_42_method_149_code 6 none ws ({ frames := 4, cells := 2, slots := 6, locals := 57 } : Room) #[.ref xa, .ref xc, .int 0, .int 2, .null] h0 (Q_own_si2 Z xa xc xk c0 c1 gz gfm gwC gwM h0 n0) := by
  refine own_mk (plainFor_of_name own_pn_java_lang_String) O0 ?_
  intro p e s m below meth c s₁ hx hby hml hZ hown hnm hlk hret X0 e0 N0 z0 z1
  have K0 : Keep h0 h0 [xa] := Keep.refl _ _
  refine own_cast (own_ef_own_si2 m xa xc) ?_
  show own_Goes p e below (s₁.setTop (mkF m 0 #[vR xa, vR xc, vI 0, vI 2, vN, uS] [])) _
  obtain ⟨G0, G1, G2, G3, G4, G5, G6, G7, G8, G9, G10, G11⟩ := id G
  have ltG8 : @LT.lt Nat _ gwC Z.heap.size := G8.lt
  have ltG10 : @LT.lt Nat _ gwM Z.heap.size := G10.lt
  have ltP0 : @LT.lt Nat _ xa h0.size := P0.lt
  have ltP4 : @LT.lt Nat _ xc h0.size := P4.lt
  refine q_aloadN X0 hx hby d3_0 rfl rfl ?_
  obtain ⟨T1, X1, e1, st1⟩ := initO X0 hx hZ hown (wh hw 15 rfl) (wh hw 16 rfl) (wh hw 17 rfl) e0 (g := (mkF m 1 #[vR xa, vR xc, vI 0, vI 2, vN, uS] [.ref xa])) rfl (by rw [hml]; rfl) rfl (hb hby d3_1) (by decide) (W := 0) (by show 2 * 0 + _ ≤ _; exact Nat.le_of_eq rfl) (by decide)
  refine gg st1 ?_
  refine q_iloadN X1 hx hby d3_4 rfl ?_
  refine q_ifYes (pc := 5) X1 hx hby d3_5 (pc' := 27) ((if0 _ _).trans (feq (show ¬ ((2 : Int32) = (0 : Int32)) from by decide)).2) (by decide) (by decide) ?_
  have q2 := G0.ext O0.2
  refine qS X1 hx hby hZ hown (host := "") (Or.inl (wh hw 26 rfl)) Via.refl e1 q2 d3_27 (fun T3 X3 e3 => ?_)
  refine q_ifNo X3 hx hby d3_30 ((if0 _ _).trans (feq (show ¬ (gz = (0 : Int32)) from G1)).1) ?_
  refine q_aloadN X3 hx hby d3_33 rfl rfl ?_
  refine q_iloadN X3 hx hby d3_34 rfl ?_
  refine q_iloadN X3 hx hby d3_35 rfl ?_
  refine k_S X3 hx hby hZ hown (wh hw 27 rfl) (wh hw 28 rfl) (W := 0) (own_co2 l Z a0 hw [] xc xk c0 c1 h0 n0 O0 gz gfm gwC gwM G P4 (show own_C16 c0 from P6) (show own_C16 c1 from P7)) (wh hw 30 rfl) (wh hw 29 rfl) e3  hml (argsL := [.ref xc, .int 0, .int 2]) (rest := []) own_pd_4 d3_36 (fun _ T4 L4 X4 hQ4 => ?_)
  obtain ⟨h4, e4⟩ : ∃ z, T4.heap = z := ⟨_, rfl⟩
  rw [e4] at hQ4
  obtain ⟨Nc4, Kc4, r_4, rfl, c4_0, c4_1⟩ := hQ4
  have N4 := Fr.app N0 Nc4
  have O5 := O0.keep Kc4 all0
  have sz6 : h0.size ≤ h4.size := Kc4.1
  have K7 := Keep.trans K0 Kc4 all0
  obtain ⟨kbs8, cds8, Ns8, vss8, As8, hCs8⟩ := id c4_0
  rcases hCs8 with ⟨rfl, rfl, rfl, hLs8⟩ | ⟨rfl, rfl, rfl, hWs8⟩
  · have Bs8 : Arv Z h4 r_4 kbs8 .byte (2 : Int32) [(.int (c0.toInt8.toInt32)), (.int (c1.toInt8.toInt32))] (.int 0) := As8
    show own_Goes p e below (T4.setTop (mkF m 39 #[vR xa, vR xc, vI 0, vI 2, vN, uS] [.ref r_4])) _
    refine q_astore X4 hx hby d3_39 rfl (l' := #[vR xa, vR xc, vI 0, vI 2, vN, vR r_4]) rfl ?_
    refine q_aloadN X4 hx hby d3_41 rfl rfl ?_
    refine q_aload X4 hx hby d3_42 rfl rfl ?_
    refine q_iloadN X4 hx hby d3_44 rfl ?_
    refine k_S X4 hx hby hZ hown (wh hw 34 rfl) (wh hw 35 rfl) (W := 1) (own_cfa2a l Z a0 hw [] r_4 kbs8 (c0.toInt8.toInt32) (c1.toInt8.toInt32) h4 n0 O5 Bs8) (wh hw 36 rfl) (wh hw 29 rfl) e4  hml (argsL := [.ref r_4, .int 2]) (rest := [.ref xa]) own_pd_6 d3_45 (fun _ T9 L9 X9 hQ9 => ?_)
    obtain ⟨Nc9, e9, rfl⟩ := hQ9
    have N9 := Fr.app N4 Nc9
    have f10 := (P2.keep Kc4 nin0)
    have f11 := (P0.keep Kc4)
    obtain ⟨T12, h12, X12, e12, W12, st12⟩ := putFN X9 hx hZ hown (wh hw 25 rfl) Via.refl e9 f10 f11 (Or.inr ⟨(wh hw 21 rfl), rfl, hnm⟩) (wh hw 5 rfl) (ty := .byte) (v' := (.int 0)) (by decide) rfl rfl (g := (mkF m 48 #[vR xa, vR xc, vI 0, vI 2, vN, vR r_4] [.int 0, .ref xa])) rfl rfl (hb hby d3_48)
    refine gg st12 ?_
    have O13 := O5.wr W12 (show n0 ≤ xa by omega)
    have sz14 : h12.size = h4.size := Wr.size W12
    have K15 := K7.wr W12 (Or.inl (List.mem_of_getElem? (i := 0) rfl))
    have N12 := Fr.snoc X12 N9 (show n0 ≤ xa by omega)
    have Fw12 := f10.same W12
    refine q_aloadN X12 hx hby d3_51 rfl rfl ?_
    refine q_aload X12 hx hby d3_52 rfl rfl ?_
    have f16 := ((P1.keep Kc4 nin0).other W12 (Or.inr (slot_ne (Or.inr (wh hw 20 rfl)) (Or.inr (wh hw 21 rfl)) (by decide) (t := (.array .byte)) (t' := .byte) (by decide) (by decide))))
    have f17 := (f11.wr W12)
    refine qP X12 hx hby hZ hown (host := "") (Or.inl (wh hw 24 rfl)) Via.refl e12 f16 f17 (Or.inr ⟨(wh hw 20 rfl), rfl, hnm⟩) (wh hw 5 rfl) (ty := (.array .byte)) d3_54 (fun T18 h18 X18 e18 W18 => ?_)
    have O19 := O13.wr W18 (show n0 ≤ xa by omega)
    have sz20 : h18.size = h12.size := Wr.size W18
    have K21 := K15.wr W18 (Or.inl (List.mem_of_getElem? (i := 0) rfl))
    have N18 := Fr.snoc X18 N12 (show n0 ≤ xa by omega)
    have Fw18 := f16.same W18
    refine r_V X18 hx hby hret hlk d3_57 e18 ?_
    have f22 := (f17.wr W18)
    have f23 := (Fw12.other W18 (Or.inr (slot_ne (Or.inr (wh hw 21 rfl)) (Or.inr (wh hw 20 rfl)) (by decide) (t := .byte) (t' := (.array .byte)) (by decide) (by decide))))
    have f24 := ((Bs8.other W12 (nE r_4 xa (by omega))).other W18 (nE r_4 xa (by omega)))
    exact ⟨N18, K21, r_4, rfl, ⟨f22, Fw18, _, _, _, _, f23, f24, Or.inl ⟨rfl, rfl, rfl, hLs8⟩, (own_alS P6 (own_alS P7 own_al0)), Nat.le_of_ble_eq_true rfl⟩⟩
  · have Bs8 : Arv Z h4 r_4 kbs8 .byte (4 : Int32) [(.int (c0.toInt8.toInt32)), (.int ((c0 >>> ((8 : Int32) &&& 31)).toInt8.toInt32)), (.int (c1.toInt8.toInt32)), (.int ((c1 >>> ((8 : Int32) &&& 31)).toInt8.toInt32))] (.int 0) := As8
    show own_Goes p e below (T4.setTop (mkF m 39 #[vR xa, vR xc, vI 0, vI 2, vN, uS] [.ref r_4])) _
    refine q_astore X4 hx hby d3_39 rfl (l' := #[vR xa, vR xc, vI 0, vI 2, vN, vR r_4]) rfl ?_
    refine q_aloadN X4 hx hby d3_41 rfl rfl ?_
    refine q_aload X4 hx hby d3_42 rfl rfl ?_
    refine q_iloadN X4 hx hby d3_44 rfl ?_
    refine k_S X4 hx hby hZ hown (wh hw 34 rfl) (wh hw 35 rfl) (W := 1) (own_cfa2b l Z a0 hw [] r_4 kbs8 (c0.toInt8.toInt32) ((c0 >>> ((8 : Int32) &&& 31)).toInt8.toInt32) (c1.toInt8.toInt32) ((c1 >>> ((8 : Int32) &&& 31)).toInt8.toInt32) h4 n0 O5 Bs8) (wh hw 36 rfl) (wh hw 29 rfl) e4  hml (argsL := [.ref r_4, .int 2]) (rest := [.ref xa]) own_pd_6 d3_45 (fun _ T25 L25 X25 hQ25 => ?_)
    obtain ⟨Nc25, e25, rfl⟩ := hQ25
    have N25 := Fr.app N4 Nc25
    have f26 := (P2.keep Kc4 nin0)
    have f27 := (P0.keep Kc4)
    obtain ⟨T28, h28, X28, e28, W28, st28⟩ := putFN X25 hx hZ hown (wh hw 25 rfl) Via.refl e25 f26 f27 (Or.inr ⟨(wh hw 21 rfl), rfl, hnm⟩) (wh hw 5 rfl) (ty := .byte) (v' := (.int 1)) (by decide) rfl rfl (g := (mkF m 48 #[vR xa, vR xc, vI 0, vI 2, vN, vR r_4] [.int 1, .ref xa])) rfl rfl (hb hby d3_48)
    refine gg st28 ?_
    have O29 := O5.wr W28 (show n0 ≤ xa by omega)
    have sz30 : h28.size = h4.size := Wr.size W28
    have K31 := K7.wr W28 (Or.inl (List.mem_of_getElem? (i := 0) rfl))
    have N28 := Fr.snoc X28 N25 (show n0 ≤ xa by omega)
    have Fw28 := f26.same W28
    refine q_aloadN X28 hx hby d3_51 rfl rfl ?_
    refine q_aload X28 hx hby d3_52 rfl rfl ?_
    have f32 := ((P1.keep Kc4 nin0).other W28 (Or.inr (slot_ne (Or.inr (wh hw 20 rfl)) (Or.inr (wh hw 21 rfl)) (by decide) (t := (.array .byte)) (t' := .byte) (by decide) (by decide))))
    have f33 := (f27.wr W28)
    refine qP X28 hx hby hZ hown (host := "") (Or.inl (wh hw 24 rfl)) Via.refl e28 f32 f33 (Or.inr ⟨(wh hw 20 rfl), rfl, hnm⟩) (wh hw 5 rfl) (ty := (.array .byte)) d3_54 (fun T34 h34 X34 e34 W34 => ?_)
    have O35 := O29.wr W34 (show n0 ≤ xa by omega)
    have sz36 : h34.size = h28.size := Wr.size W34
    have K37 := K31.wr W34 (Or.inl (List.mem_of_getElem? (i := 0) rfl))
    have N34 := Fr.snoc X34 N28 (show n0 ≤ xa by omega)
    have Fw34 := f32.same W34
    refine r_V X34 hx hby hret hlk d3_57 e34 ?_
    have f38 := (f33.wr W34)
    have f39 := (Fw28.other W34 (Or.inr (slot_ne (Or.inr (wh hw 21 rfl)) (Or.inr (wh hw 20 rfl)) (by decide) (t := .byte) (t' := (.array .byte)) (by decide) (by decide))))
    have f40 := ((Bs8.other W28 (nE r_4 xa (by omega))).other W34 (nE r_4 xa (by omega)))
    exact ⟨N34, K37, r_4, rfl, ⟨f38, Fw34, _, _, _, _, f39, f40, Or.inr ⟨rfl, rfl, rfl, hWs8⟩, (own_alS P6 (own_alS P7 own_al0)), Nat.le_of_ble_eq_true rfl⟩⟩
theorem own_ef_own_sc2 (m : MethodId) (xa : Addr) (xc : Addr) : entryFrame m #[.ref xa, .ref xc] 2 = mkF m 0 #[vR xa, vR xc] [] := by first | (simp [entryFrame, mkF, argsToLocals, Value.category]; done) | rfl
def Q_own_sc2 (Z : State) (xa : Addr) (xc : Addr) (xk : ClassId) (c0 : Int32) (c1 : Int32) (gz : Int32) (gfm : Value) (gwC : Addr) (gwM : Addr) (h0 : Heap) (n0 : Nat) (v : Option Value) (h : Heap) (L : List Loc) : Prop := Fr n0 L ∧ Keep h0 h [xa] ∧ ∃ (rb : Addr), v = none ∧ own_Str Z h xa rb ([c0, c1] : List Int32)
theorem own_sc2 (l : Launch) (Z : State) (a0 : Array Value) (hw : ∀ d ∈ tables_1, d.before a0 Z = true) (ws : List Jvm.Cond) (xa : Addr) (xc : Addr) (xk : ClassId) (c0 : Int32) (c1 : Int32) (h0 : Heap) (n0 : Nat) (O0 : Old Z n0 h0) (gz : Int32) (gfm : Value) (gwC : Addr) (gwM : Addr) (G : GG Z gz gfm gwC gwM) (P0 : Exa Z h0 xa "java/lang/String") (P1 : Fld Z h0 xa "java/lang/String" "value" "[B" .null) (P2 : Fld Z h0 xa "java/lang/String" "coder" "B" (.int 0)) (P3 : n0 ≤ xa) (P4 : Arv Z h0 xc xk .char (2 : Int32) [.int c0, .int c1] (.int 0)) (P5 : (@LT.lt Nat _ xc xa ∨ @LT.lt Nat _ xa xc)) (P6 : own_C16 c0) (P7 : own_C16 c1) : own_Met l Z (⟨"java/lang/String", "<init>", "([C)V"⟩ : MethodName) jdk_42_method_3_code 2 none ws ({ frames := 5, cells := 2, slots := 6, locals := 74 } : Room) #[.ref xa, .ref xc] h0 (Q_own_sc2 Z xa xc xk c0 c1 gz gfm gwC gwM h0 n0) := by
  refine own_mk (plainFor_of_name own_pn_java_lang_String) O0 ?_
  intro p e s m below meth c s₁ hx hby hml hZ hown hnm hlk hret X0 e0 N0 z0 z1
  have K0 : Keep h0 h0 [xa] := Keep.refl _ _
  refine own_cast (own_ef_own_sc2 m xa xc) ?_
  show own_Goes p e below (s₁.setTop (mkF m 0 #[vR xa, vR xc] [])) _
  obtain ⟨G0, G1, G2, G3, G4, G5, G6, G7, G8, G9, G10, G11⟩ := id G
  have ltG8 : @LT.lt Nat _ gwC Z.heap.size := G8.lt
  have ltG10 : @LT.lt Nat _ gwM Z.heap.size := G10.lt
  have ltP0 : @LT.lt Nat _ xa h0.size := P0.lt
  have ltP4 : @LT.lt Nat _ xc h0.size := P4.lt
  refine q_aloadN X0 hx hby d2_0 rfl rfl ?_
  refine q_aloadN X0 hx hby d2_1 rfl rfl ?_
  refine q_iconst X0 hx hby d2_2 ?_
  refine q_aloadN X0 hx hby d2_3 rfl rfl ?_
  refine q_len X0 hx hby hZ e0 P4 d2_4 ?_
  refine q_aconstNull X0 hx hby d2_5 ?_
  refine k_N X0 hx hby hZ hown (wh hw 11 rfl) (wh hw 12 rfl) (W := 0) (own_si2 l Z a0 hw [] xa xc xk c0 c1 h0 n0 O0 gz gfm gwC gwM G P0 P1 P2 (show n0 ≤ xa by first | assumption | omega | decide) P4 (show (@LT.lt Nat _ xc xa ∨ @LT.lt Nat _ xa xc) by first | assumption | omega | decide) (show own_C16 c0 from P6) (show own_C16 c1 from P7)) (wh hw 14 rfl) (wh hw 6 rfl) e0  hml (argsL := [.ref xc, .int 0, .int 2, .null]) (rest := []) own_pd_7 d2_6 (fun _ T2 L2 X2 hQ2 => ?_)
  obtain ⟨h2, e2⟩ : ∃ z, T2.heap = z := ⟨_, rfl⟩
  rw [e2] at hQ2
  obtain ⟨Nc2, Kc2, rb_2, rfl, c2_0⟩ := hQ2
  have N2 := Fr.app N0 Nc2
  have O3 := O0.keep Kc2 (allS (show n0 ≤ xa by omega) all0)
  have sz4 : h0.size ≤ h2.size := Kc2.1
  have K5 := Keep.trans K0 Kc2 (allS (Or.inl (List.mem_of_getElem? (i := 0) rfl)) all0)
  have ltc2_0 : @LT.lt Nat _ xa h2.size := c2_0.1.lt
  have luc2_0 : @LT.lt Nat _ rb_2 h2.size := c2_0.lt2
  refine r_V X2 hx hby hret hlk d2_9 e2 ?_
  exact ⟨N2, K5, rb_2, rfl, c2_0⟩
theorem own_ef_own_nbl3 (m : MethodId) : entryFrame m #[.int 3] 1 = mkF m 0 #[vI 3] [] := by first | (simp [entryFrame, mkF, argsToLocals, Value.category]; done) | rfl
def Q_own_nbl3 (Z : State) (h0 : Heap) (n0 : Nat) (v : Option Value) (h : Heap) (L : List Loc) : Prop := Fr n0 L ∧ h = h0 ∧ v = some (.int 6)
theorem own_nbl3 (l : Launch) (Z : State) (a0 : Array Value) (hw : ∀ d ∈ tables_1, d.before a0 Z = true) (ws : List Jvm.Cond) (h0 : Heap) (n0 : Nat) (O0 : Old Z n0 h0) : own_Met l Z (⟨"java/lang/StringUTF16", "newBytesLength", "(I)I"⟩ : MethodName) jdk_52_method_3_code 1 (some .int) ws ({ frames := 0, cells := 0, slots := 0, locals := 0 } : Room) #[.int 3] h0 (Q_own_nbl3 Z h0 n0) := by
  refine own_mk (plainFor_of_name own_pn_java_lang_StringUTF16) O0 ?_
  intro p e s m below meth c s₁ hx hby hml hZ hown hnm hlk hret X0 e0 N0 z0 z1
  refine own_cast (own_ef_own_nbl3 m) ?_
  show own_Goes p e below (s₁.setTop (mkF m 0 #[vI 3] [])) _
  refine q_iloadN X0 hx hby d30_0 rfl ?_
  refine q_ifYes (pc := 1) X0 hx hby d30_1 (pc' := 12) ((if0 _ _).trans (flt (show ¬ ((3 : Int32) < (0 : Int32)) from by decide)).2.1) (by decide) (by decide) ?_
  refine q_iloadN X0 hx hby d30_12 rfl ?_
  refine gg (fun t k => Jvm.Stand.ldcI X0 hx hown (mv hZ (wh hw 161 rfl)) rfl (hb hby d30_13) k) ?_
  refine q_icmpYes (pc := 15) X0 hx hby d30_15 (pc' := 55) (tlt (show ((3 : Int32) < (1073741823 : Int32)) from by decide)).1 (by decide) (by decide) ?_
  refine q_iloadN X0 hx hby d30_55 rfl ?_
  refine q_iconst X0 hx hby d30_56 ?_
  refine gg (fun t k => XS.ishl X0.here hx rfl (hb hby d30_57) rfl k) ?_
  show own_Goes p e below (s₁.setTop (mkF m 58 #[vI 3] [(.int ((3 : Int32) <<< ((1 : Int32) &&& 31)))])) _
  rw [show ((3 : Int32) <<< ((1 : Int32) &&& 31)) = (6 : Int32) from by decide]
  refine r_I X0 hx hby hret hlk d30_58 e0 ?_
  exact ⟨N0, rfl, rfl⟩
theorem own_ef_own_nbf3 (m : MethodId) : entryFrame m #[.int 3] 1 = mkF m 0 #[vI 3] [] := by first | (simp [entryFrame, mkF, argsToLocals, Value.category]; done) | rfl
def Q_own_nbf3 (Z : State) (h0 : Heap) (n0 : Nat) (v : Option Value) (h : Heap) (L : List Loc) : Prop := Fr n0 L ∧ Keep h0 h [] ∧ ∃ (r : Addr), ∃ (rk : ClassId), v = some (.ref r) ∧ Arv Z h r rk .byte (6 : Int32) [.int 0, .int 0, .int 0, .int 0, .int 0, .int 0] (.int 0) ∧ h0.size ≤ r
theorem own_nbf3 (l : Launch) (Z : State) (a0 : Array Value) (hw : ∀ d ∈ tables_1, d.before a0 Z = true) (ws : List Jvm.Cond) (h0 : Heap) (n0 : Nat) (O0 : Old Z n0 h0) : own_Met l Z (⟨"java/lang/StringUTF16", "newBytesFor", "(I)[B"⟩ : MethodName) jdk_52_method_2_code 1 (some (.array .byte)) ws ({ frames := 1, cells := 1, slots := 6, locals := 12 } : Room) #[.int 3] h0 (Q_own_nbf3 Z h0 n0) := by
  refine own_mk (plainFor_of_name own_pn_java_lang_StringUTF16) O0 ?_
  intro p e s m below meth c s₁ hx hby hml hZ hown hnm hlk hret X0 e0 N0 z0 z1
  have K0 : Keep h0 h0 [] := Keep.refl _ _
  refine own_cast (own_ef_own_nbf3 m) ?_
  show own_Goes p e below (s₁.setTop (mkF m 0 #[vI 3] [])) _
  refine q_iloadN X0 hx hby d29_0 rfl ?_
  refine k_S X0 hx hby hZ hown (wh hw 158 rfl) (wh hw 159 rfl) (W := 0) (own_nbl3 l Z a0 hw []  h0 n0 O0) (wh hw 160 rfl) (wh hw 29 rfl) e0  hml (argsL := [.int 3]) (rest := []) own_pd_0 d29_1 (fun _ T1 L1 X1 hQ1 => ?_)
  obtain ⟨Nc1, e1, rfl⟩ := hQ1
  have N1 := Fr.app N0 Nc1
  obtain ⟨T2, h2, k2, X2, e2, E2, A2, st2⟩ := newP X1 hx hZ (wh hw 19 rfl) e1 (g := (mkF m 4 #[vI 3] [.int 6])) rfl (hb hby d29_4) rfl (by decide) (cap := 6) (by decide) (by decide) (by decide) (by decide)
  obtain ⟨b2, g2⟩ : ∃ z, z = h0.size := ⟨_, rfl⟩
  rw [← g2] at A2 st2
  refine gg st2 ?_
  have O3 := O0.ext E2
  have sz4 : h0.size ≤ h2.size := E2.1
  have K5 := K0.ext E2
  have l2 : @LT.lt Nat _ b2 h2.size := A2.lt
  have V2 : Arv Z h2 b2 k2 .byte (6 : Int32) [.int 0, .int 0, .int 0, .int 0, .int 0, .int 0] (.int 0) := (Arv.new A2 (by decide)).pad (pad_rep [] (.int 0) 6)
  refine r_R X2 hx hby hret hlk d29_6 e2 ?_
  exact ⟨N1, K5, b2, k2, rfl, V2, (show h0.size ≤ b2 by first | assumption | omega | decide)⟩
theorem own_ef_own_pc3_0 (m : MethodId) (xb : Addr) (xi : Int32) : entryFrame m #[.ref xb, .int 0, .int xi] 3 = mkF m 0 #[vR xb, vI 0, vI xi] [] := by first | (simp [entryFrame, mkF, argsToLocals, Value.category]; done) | rfl
def Q_own_pc3_0 (Z : State) (xb : Addr) (xq : ClassId) (xi : Int32) (y0 : Int32) (y1 : Int32) (y2 : Int32) (y3 : Int32) (y4 : Int32) (y5 : Int32) (gz : Int32) (gfm : Value) (gwC : Addr) (gwM : Addr) (h0 : Heap) (n0 : Nat) (v : Option Value) (h : Heap) (L : List Loc) : Prop := Fr n0 L ∧ Keep h0 h [xb] ∧ v = none ∧ Arv Z h xb xq .byte (6 : Int32) [(.int (xi.toInt8.toInt32)), (.int ((xi >>> ((8 : Int32) &&& 31)).toInt8.toInt32)), .int y2, .int y3, .int y4, .int y5] (.int 0)
theorem own_pc3_0 (l : Launch) (Z : State) (a0 : Array Value) (hw : ∀ d ∈ tables_1, d.before a0 Z = true) (ws : List Jvm.Cond) (xb : Addr) (xq : ClassId) (xi : Int32) (y0 : Int32) (y1 : Int32) (y2 : Int32) (y3 : Int32) (y4 : Int32) (y5 : Int32) (h0 : Heap) (n0 : Nat) (O0 : Old Z n0 h0) (gz : Int32) (gfm : Value) (gwC : Addr) (gwM : Addr) (G : GG Z gz gfm gwC gwM) (P0 : Arv Z h0 xb xq .byte (6 : Int32) [.int y0, .int y1, .int y2, .int y3, .int y4, .int y5] (.int 0)) (P1 : n0 ≤ xb) : own_Met l Z (⟨"java/lang/StringUTF16", "putChar", "([BII)V"⟩ : MethodName) jdk_52_method_4_code 3 none ws ({ frames := 0, cells := 0, slots := 0, locals := 0 } : Room) #[.ref xb, .int 0, .int xi] h0 (Q_own_pc3_0 Z xb xq xi y0 y1 y2 y3 y4 y5 gz gfm gwC gwM h0 n0) := by
  refine own_mk (plainFor_of_name own_pn_java_lang_StringUTF16) O0 ?_
  intro p e s m below meth c s₁ hx hby hml hZ hown hnm hlk hret X0 e0 N0 z0 z1
  have K0 : Keep h0 h0 [xb] := Keep.refl _ _
  refine own_cast (own_ef_own_pc3_0 m xb xi) ?_
  show own_Goes p e below (s₁.setTop (mkF m 0 #[vR xb, vI 0, vI xi] [])) _
  obtain ⟨G0, G1, G2, G3, G4, G5, G6, G7, G8, G9, G10, G11⟩ := id G
  have ltG8 : @LT.lt Nat _ gwC Z.heap.size := G8.lt
  have ltG10 : @LT.lt Nat _ gwM Z.heap.size := G10.lt
  have ltP0 : @LT.lt Nat _ xb h0.size := P0.lt
  have q1 := G2.ext O0.2
  refine qS X0 hx hby hZ hown (host := "") (Or.inl (wh hw 165 rfl)) Via.refl e0 q1 d31_0 (fun T2 X2 e2 => ?_)
  refine q_ifYes (pc := 3) X2 hx hby d31_3 (pc' := 28) ((if0 _ _).trans (feq (show ¬ ((1 : Int32) = (0 : Int32)) from by decide)).2) (by decide) (by decide) ?_
  refine q_iloadN X2 hx hby d31_28 rfl ?_
  refine q_iconst X2 hx hby d31_29 ?_
  refine gg (fun t k => XS.ishl X2.here hx rfl (hb hby d31_30) rfl k) ?_
  show own_Goes p e below (T2.setTop (mkF m 31 #[vR xb, vI 0, vI xi] [(.int ((0 : Int32) <<< ((1 : Int32) &&& 31)))])) _
  rw [show ((0 : Int32) <<< ((1 : Int32) &&& 31)) = (0 : Int32) from by decide]
  refine q_istoreN X2 hx hby d31_31 (l' := #[vR xb, vI 0, vI xi]) rfl ?_
  refine q_aloadN X2 hx hby d31_32 rfl rfl ?_
  refine q_iloadN X2 hx hby d31_33 rfl ?_
  refine gg (fun t k => XS.iinc X2.here hx rfl (hb hby d31_34) rfl (l' := #[vR xb, vI ((0 : Int32) + (1 : Int32)), vI xi]) rfl k) ?_
  show own_Goes p e below (T2.setTop (mkF m 37 #[vR xb, vI ((0 : Int32) + (1 : Int32)), vI xi] [.int 0, .ref xb])) _
  rw [show ((0 : Int32) + (1 : Int32)) = (1 : Int32) from by decide]
  refine q_iloadN X2 hx hby d31_37 rfl ?_
  have q3 := G3.ext O0.2
  refine qS X2 hx hby hZ hown (host := "") (Or.inl (wh hw 166 rfl)) Via.refl e2 q3 d31_38 (fun T4 X4 e4 => ?_)
  refine gg (fun t k => XS.ishr X4.here hx rfl (hb hby d31_41) rfl k) ?_
  show own_Goes p e below (T4.setTop (mkF m 42 #[vR xb, vI 1, vI xi] [(.int (xi >>> ((0 : Int32) &&& 31))), .int 0, .ref xb])) _
  rw [show (xi >>> ((0 : Int32) &&& 31)) = xi from own_sh0 xi]
  refine gg (fun t k => XS.i2b X4.here hx rfl (hb hby d31_42) rfl k) ?_
  refine q_stB X4 hx hby hZ e4 P0 0 d31_43 (fun T6 h6 X6 e6 W6 V6 => ?_)
  have O7 := O0.wr W6 (show n0 ≤ xb by omega)
  have sz8 : h6.size = h0.size := Wr.size W6
  have K9 := K0.wr W6 (Or.inl (List.mem_of_getElem? (i := 0) rfl))
  have N6 := Fr.snoc X6 N0 (show n0 ≤ xb by omega)
  have V6 : Arv Z h6 xb xq .byte (6 : Int32) [(.int ((xi.toInt8.toInt32).toInt8.toInt32)), .int y1, .int y2, .int y3, .int y4, .int y5] (.int 0) := V6
  rw [show ((xi.toInt8.toInt32).toInt8.toInt32) = (xi.toInt8.toInt32) from own_i8i8 _] at V6
  refine q_aloadN X6 hx hby d31_44 rfl rfl ?_
  refine q_iloadN X6 hx hby d31_45 rfl ?_
  refine q_iloadN X6 hx hby d31_46 rfl ?_
  have q10 := G4.ext O7.2
  refine qS X6 hx hby hZ hown (host := "") (Or.inl (wh hw 167 rfl)) Via.refl e6 q10 d31_47 (fun T11 X11 e11 => ?_)
  refine gg (fun t k => XS.ishr X11.here hx rfl (hb hby d31_50) rfl k) ?_
  refine gg (fun t k => XS.i2b X11.here hx rfl (hb hby d31_51) rfl k) ?_
  refine q_stB X11 hx hby hZ e11 V6 1 d31_52 (fun T13 h13 X13 e13 W13 V13 => ?_)
  have O14 := O7.wr W13 (show n0 ≤ xb by omega)
  have sz15 : h13.size = h6.size := Wr.size W13
  have K16 := K9.wr W13 (Or.inl (List.mem_of_getElem? (i := 0) rfl))
  have N13 := Fr.snoc X13 N6 (show n0 ≤ xb by omega)
  have V13 : Arv Z h13 xb xq .byte (6 : Int32) [(.int (xi.toInt8.toInt32)), (.int (((xi >>> ((8 : Int32) &&& 31)).toInt8.toInt32).toInt8.toInt32)), .int y2, .int y3, .int y4, .int y5] (.int 0) := V13
  rw [show (((xi >>> ((8 : Int32) &&& 31)).toInt8.toInt32).toInt8.toInt32) = ((xi >>> ((8 : Int32) &&& 31)).toInt8.toInt32) from own_i8i8 _] at V13
  refine r_V X13 hx hby hret hlk d31_53 e13 ?_
  exact ⟨N13, K16, rfl, V13⟩
theorem own_ef_own_gc3_0 (m : MethodId) (xb : Addr) : entryFrame m #[.ref xb, .int 0] 2 = mkF m 0 #[vR xb, vI 0] [] := by first | (simp [entryFrame, mkF, argsToLocals, Value.category]; done) | rfl
def Q_own_gc3_0 (Z : State) (xb : Addr) (xq : ClassId) (y0 : Int32) (y1 : Int32) (y2 : Int32) (y3 : Int32) (y4 : Int32) (y5 : Int32) (gz : Int32) (gfm : Value) (gwC : Addr) (gwM : Addr) (h0 : Heap) (n0 : Nat) (v : Option Value) (h : Heap) (L : List Loc) : Prop := Fr n0 L ∧ h = h0 ∧ v = some (.int ((((y0 &&& (255 : Int32)) <<< ((0 : Int32) &&& 31)) ||| ((y1 &&& (255 : Int32)) <<< ((8 : Int32) &&& 31))).toUInt32.toUInt16.toUInt32.toInt32))
theorem own_gc3_0 (l : Launch) (Z : State) (a0 : Array Value) (hw : ∀ d ∈ tables_1, d.before a0 Z = true) (ws : List Jvm.Cond) (xb : Addr) (xq : ClassId) (y0 : Int32) (y1 : Int32) (y2 : Int32) (y3 : Int32) (y4 : Int32) (y5 : Int32) (h0 : Heap) (n0 : Nat) (O0 : Old Z n0 h0) (gz : Int32) (gfm : Value) (gwC : Addr) (gwM : Addr) (G : GG Z gz gfm gwC gwM) (P0 : Arv Z h0 xb xq .byte (6 : Int32) [.int y0, .int y1, .int y2, .int y3, .int y4, .int y5] (.int 0)) : own_Met l Z (⟨"java/lang/StringUTF16", "getChar", "([BI)C"⟩ : MethodName) jdk_52_method_5_code 2 (some .char) ws ({ frames := 0, cells := 0, slots := 0, locals := 0 } : Room) #[.ref xb, .int 0] h0 (Q_own_gc3_0 Z xb xq y0 y1 y2 y3 y4 y5 gz gfm gwC gwM h0 n0) := by
  refine own_mk (plainFor_of_name own_pn_java_lang_StringUTF16) O0 ?_
  intro p e s m below meth c s₁ hx hby hml hZ hown hnm hlk hret X0 e0 N0 z0 z1
  refine own_cast (own_ef_own_gc3_0 m xb) ?_
  show own_Goes p e below (s₁.setTop (mkF m 0 #[vR xb, vI 0] [])) _
  obtain ⟨G0, G1, G2, G3, G4, G5, G6, G7, G8, G9, G10, G11⟩ := id G
  have ltG8 : @LT.lt Nat _ gwC Z.heap.size := G8.lt
  have ltG10 : @LT.lt Nat _ gwM Z.heap.size := G10.lt
  have ltP0 : @LT.lt Nat _ xb h0.size := P0.lt
  have q1 := G2.ext O0.2
  refine qS X0 hx hby hZ hown (host := "") (Or.inl (wh hw 165 rfl)) Via.refl e0 q1 d32_0 (fun T2 X2 e2 => ?_)
  refine q_ifYes (pc := 3) X2 hx hby d32_3 (pc' := 28) ((if0 _ _).trans (feq (show ¬ ((1 : Int32) = (0 : Int32)) from by decide)).2) (by decide) (by decide) ?_
  refine q_iloadN X2 hx hby d32_28 rfl ?_
  refine q_iconst X2 hx hby d32_29 ?_
  refine gg (fun t k => XS.ishl X2.here hx rfl (hb hby d32_30) rfl k) ?_
  show own_Goes p e below (T2.setTop (mkF m 31 #[vR xb, vI 0] [(.int ((0 : Int32) <<< ((1 : Int32) &&& 31)))])) _
  rw [show ((0 : Int32) <<< ((1 : Int32) &&& 31)) = (0 : Int32) from by decide]
  refine q_istoreN X2 hx hby d32_31 (l' := #[vR xb, vI 0]) rfl ?_
  refine q_aloadN X2 hx hby d32_32 rfl rfl ?_
  refine q_iloadN X2 hx hby d32_33 rfl ?_
  refine gg (fun t k => XS.iinc X2.here hx rfl (hb hby d32_34) rfl (l' := #[vR xb, vI ((0 : Int32) + (1 : Int32))]) rfl k) ?_
  show own_Goes p e below (T2.setTop (mkF m 37 #[vR xb, vI ((0 : Int32) + (1 : Int32))] [.int 0, .ref xb])) _
  rw [show ((0 : Int32) + (1 : Int32)) = (1 : Int32) from by decide]
  refine q_baloadBytes X2 hx hby hZ e2 P0 d32_37 (.int y0) ?_
  refine q_sipush X2 hx hby d32_38 ?_
  refine q_iand X2 hx hby d32_41 ?_
  have q4 := G3.ext O0.2
  refine qS X2 hx hby hZ hown (host := "") (Or.inl (wh hw 166 rfl)) Via.refl e2 q4 d32_42 (fun T5 X5 e5 => ?_)
  refine gg (fun t k => XS.ishl X5.here hx rfl (hb hby d32_45) rfl k) ?_
  refine q_aloadN X5 hx hby d32_46 rfl rfl ?_
  refine q_iloadN X5 hx hby d32_47 rfl ?_
  refine q_baloadBytes X5 hx hby hZ e5 P0 d32_48 (.int y1) ?_
  refine q_sipush X5 hx hby d32_49 ?_
  refine q_iand X5 hx hby d32_52 ?_
  have q7 := G4.ext O0.2
  refine qS X5 hx hby hZ hown (host := "") (Or.inl (wh hw 167 rfl)) Via.refl e5 q7 d32_53 (fun T8 X8 e8 => ?_)
  refine gg (fun t k => XS.ishl X8.here hx rfl (hb hby d32_56) rfl k) ?_
  refine gg (fun t k => XS.ior X8.here hx rfl (hb hby d32_57) rfl k) ?_
  refine gg (fun t k => XS.i2c X8.here hx rfl (hb hby d32_58) rfl k) ?_
  show own_Goes p e below (T8.setTop (mkF m 59 #[vR xb, vI 1] [(.int ((((y0 &&& (255 : Int32)) <<< ((0 : Int32) &&& 31)) ||| ((y1 &&& (255 : Int32)) <<< ((8 : Int32) &&& 31))).toUInt32.toUInt16.toUInt32.toInt32))])) _
  refine r_C X8 hx hby hret hlk d32_59 e8 ?_ (hn := (own_narr16 (own_C16i _)))
  exact ⟨N0, rfl, rfl⟩
theorem own_ef_own_pc3_1 (m : MethodId) (xb : Addr) (xi : Int32) : entryFrame m #[.ref xb, .int 1, .int xi] 3 = mkF m 0 #[vR xb, vI 1, vI xi] [] := by first | (simp [entryFrame, mkF, argsToLocals, Value.category]; done) | rfl
def Q_own_pc3_1 (Z : State) (xb : Addr) (xq : ClassId) (xi : Int32) (y0 : Int32) (y1 : Int32) (y2 : Int32) (y3 : Int32) (y4 : Int32) (y5 : Int32) (gz : Int32) (gfm : Value) (gwC : Addr) (gwM : Addr) (h0 : Heap) (n0 : Nat) (v : Option Value) (h : Heap) (L : List Loc) : Prop := Fr n0 L ∧ Keep h0 h [xb] ∧ v = none ∧ Arv Z h xb xq .byte (6 : Int32) [.int y0, .int y1, (.int (xi.toInt8.toInt32)), (.int ((xi >>> ((8 : Int32) &&& 31)).toInt8.toInt32)), .int y4, .int y5] (.int 0)
theorem own_pc3_1 (l : Launch) (Z : State) (a0 : Array Value) (hw : ∀ d ∈ tables_1, d.before a0 Z = true) (ws : List Jvm.Cond) (xb : Addr) (xq : ClassId) (xi : Int32) (y0 : Int32) (y1 : Int32) (y2 : Int32) (y3 : Int32) (y4 : Int32) (y5 : Int32) (h0 : Heap) (n0 : Nat) (O0 : Old Z n0 h0) (gz : Int32) (gfm : Value) (gwC : Addr) (gwM : Addr) (G : GG Z gz gfm gwC gwM) (P0 : Arv Z h0 xb xq .byte (6 : Int32) [.int y0, .int y1, .int y2, .int y3, .int y4, .int y5] (.int 0)) (P1 : n0 ≤ xb) : own_Met l Z (⟨"java/lang/StringUTF16", "putChar", "([BII)V"⟩ : MethodName) jdk_52_method_4_code 3 none ws ({ frames := 0, cells := 0, slots := 0, locals := 0 } : Room) #[.ref xb, .int 1, .int xi] h0 (Q_own_pc3_1 Z xb xq xi y0 y1 y2 y3 y4 y5 gz gfm gwC gwM h0 n0) := by
  refine own_mk (plainFor_of_name own_pn_java_lang_StringUTF16) O0 ?_
  intro p e s m below meth c s₁ hx hby hml hZ hown hnm hlk hret X0 e0 N0 z0 z1
  have K0 : Keep h0 h0 [xb] := Keep.refl _ _
  refine own_cast (own_ef_own_pc3_1 m xb xi) ?_
  show own_Goes p e below (s₁.setTop (mkF m 0 #[vR xb, vI 1, vI xi] [])) _
  obtain ⟨G0, G1, G2, G3, G4, G5, G6, G7, G8, G9, G10, G11⟩ := id G
  have ltG8 : @LT.lt Nat _ gwC Z.heap.size := G8.lt
  have ltG10 : @LT.lt Nat _ gwM Z.heap.size := G10.lt
  have ltP0 : @LT.lt Nat _ xb h0.size := P0.lt
  have q1 := G2.ext O0.2
  refine qS X0 hx hby hZ hown (host := "") (Or.inl (wh hw 165 rfl)) Via.refl e0 q1 d31_0 (fun T2 X2 e2 => ?_)
  refine q_ifYes (pc := 3) X2 hx hby d31_3 (pc' := 28) ((if0 _ _).trans (feq (show ¬ ((1 : Int32) = (0 : Int32)) from by decide)).2) (by decide) (by decide) ?_
  refine q_iloadN X2 hx hby d31_28 rfl ?_
  refine q_iconst X2 hx hby d31_29 ?_
  refine gg (fun t k => XS.ishl X2.here hx rfl (hb hby d31_30) rfl k) ?_
  show own_Goes p e below (T2.setTop (mkF m 31 #[vR xb, vI 1, vI xi] [(.int ((1 : Int32) <<< ((1 : Int32) &&& 31)))])) _
  rw [show ((1 : Int32) <<< ((1 : Int32) &&& 31)) = (2 : Int32) from by decide]
  refine q_istoreN X2 hx hby d31_31 (l' := #[vR xb, vI 2, vI xi]) rfl ?_
  refine q_aloadN X2 hx hby d31_32 rfl rfl ?_
  refine q_iloadN X2 hx hby d31_33 rfl ?_
  refine gg (fun t k => XS.iinc X2.here hx rfl (hb hby d31_34) rfl (l' := #[vR xb, vI ((2 : Int32) + (1 : Int32)), vI xi]) rfl k) ?_
  show own_Goes p e below (T2.setTop (mkF m 37 #[vR xb, vI ((2 : Int32) + (1 : Int32)), vI xi] [.int 2, .ref xb])) _
  rw [show ((2 : Int32) + (1 : Int32)) = (3 : Int32) from by decide]
  refine q_iloadN X2 hx hby d31_37 rfl ?_
  have q3 := G3.ext O0.2
  refine qS X2 hx hby hZ hown (host := "") (Or.inl (wh hw 166 rfl)) Via.refl e2 q3 d31_38 (fun T4 X4 e4 => ?_)
  refine gg (fun t k => XS.ishr X4.here hx rfl (hb hby d31_41) rfl k) ?_
  show own_Goes p e below (T4.setTop (mkF m 42 #[vR xb, vI 3, vI xi] [(.int (xi >>> ((0 : Int32) &&& 31))), .int 2, .ref xb])) _
  rw [show (xi >>> ((0 : Int32) &&& 31)) = xi from own_sh0 xi]
  refine gg (fun t k => XS.i2b X4.here hx rfl (hb hby d31_42) rfl k) ?_
  refine q_stB X4 hx hby hZ e4 P0 2 d31_43 (fun T6 h6 X6 e6 W6 V6 => ?_)
  have O7 := O0.wr W6 (show n0 ≤ xb by omega)
  have sz8 : h6.size = h0.size := Wr.size W6
  have K9 := K0.wr W6 (Or.inl (List.mem_of_getElem? (i := 0) rfl))
  have N6 := Fr.snoc X6 N0 (show n0 ≤ xb by omega)
  have V6 : Arv Z h6 xb xq .byte (6 : Int32) [.int y0, .int y1, (.int ((xi.toInt8.toInt32).toInt8.toInt32)), .int y3, .int y4, .int y5] (.int 0) := V6
  rw [show ((xi.toInt8.toInt32).toInt8.toInt32) = (xi.toInt8.toInt32) from own_i8i8 _] at V6
  refine q_aloadN X6 hx hby d31_44 rfl rfl ?_
  refine q_iloadN X6 hx hby d31_45 rfl ?_
  refine q_iloadN X6 hx hby d31_46 rfl ?_
  have q10 := G4.ext O7.2
  refine qS X6 hx hby hZ hown (host := "") (Or.inl (wh hw 167 rfl)) Via.refl e6 q10 d31_47 (fun T11 X11 e11 => ?_)
  refine gg (fun t k => XS.ishr X11.here hx rfl (hb hby d31_50) rfl k) ?_
  refine gg (fun t k => XS.i2b X11.here hx rfl (hb hby d31_51) rfl k) ?_
  refine q_stB X11 hx hby hZ e11 V6 3 d31_52 (fun T13 h13 X13 e13 W13 V13 => ?_)
  have O14 := O7.wr W13 (show n0 ≤ xb by omega)
  have sz15 : h13.size = h6.size := Wr.size W13
  have K16 := K9.wr W13 (Or.inl (List.mem_of_getElem? (i := 0) rfl))
  have N13 := Fr.snoc X13 N6 (show n0 ≤ xb by omega)
  have V13 : Arv Z h13 xb xq .byte (6 : Int32) [.int y0, .int y1, (.int (xi.toInt8.toInt32)), (.int (((xi >>> ((8 : Int32) &&& 31)).toInt8.toInt32).toInt8.toInt32)), .int y4, .int y5] (.int 0) := V13
  rw [show (((xi >>> ((8 : Int32) &&& 31)).toInt8.toInt32).toInt8.toInt32) = ((xi >>> ((8 : Int32) &&& 31)).toInt8.toInt32) from own_i8i8 _] at V13
  refine r_V X13 hx hby hret hlk d31_53 e13 ?_
  exact ⟨N13, K16, rfl, V13⟩
theorem own_ef_own_gc3_1 (m : MethodId) (xb : Addr) : entryFrame m #[.ref xb, .int 1] 2 = mkF m 0 #[vR xb, vI 1] [] := by first | (simp [entryFrame, mkF, argsToLocals, Value.category]; done) | rfl
def Q_own_gc3_1 (Z : State) (xb : Addr) (xq : ClassId) (y0 : Int32) (y1 : Int32) (y2 : Int32) (y3 : Int32) (y4 : Int32) (y5 : Int32) (gz : Int32) (gfm : Value) (gwC : Addr) (gwM : Addr) (h0 : Heap) (n0 : Nat) (v : Option Value) (h : Heap) (L : List Loc) : Prop := Fr n0 L ∧ h = h0 ∧ v = some (.int ((((y2 &&& (255 : Int32)) <<< ((0 : Int32) &&& 31)) ||| ((y3 &&& (255 : Int32)) <<< ((8 : Int32) &&& 31))).toUInt32.toUInt16.toUInt32.toInt32))
theorem own_gc3_1 (l : Launch) (Z : State) (a0 : Array Value) (hw : ∀ d ∈ tables_1, d.before a0 Z = true) (ws : List Jvm.Cond) (xb : Addr) (xq : ClassId) (y0 : Int32) (y1 : Int32) (y2 : Int32) (y3 : Int32) (y4 : Int32) (y5 : Int32) (h0 : Heap) (n0 : Nat) (O0 : Old Z n0 h0) (gz : Int32) (gfm : Value) (gwC : Addr) (gwM : Addr) (G : GG Z gz gfm gwC gwM) (P0 : Arv Z h0 xb xq .byte (6 : Int32) [.int y0, .int y1, .int y2, .int y3, .int y4, .int y5] (.int 0)) : own_Met l Z (⟨"java/lang/StringUTF16", "getChar", "([BI)C"⟩ : MethodName) jdk_52_method_5_code 2 (some .char) ws ({ frames := 0, cells := 0, slots := 0, locals := 0 } : Room) #[.ref xb, .int 1] h0 (Q_own_gc3_1 Z xb xq y0 y1 y2 y3 y4 y5 gz gfm gwC gwM h0 n0) := by
  refine own_mk (plainFor_of_name own_pn_java_lang_StringUTF16) O0 ?_
  intro p e s m below meth c s₁ hx hby hml hZ hown hnm hlk hret X0 e0 N0 z0 z1
  refine own_cast (own_ef_own_gc3_1 m xb) ?_
  show own_Goes p e below (s₁.setTop (mkF m 0 #[vR xb, vI 1] [])) _
  obtain ⟨G0, G1, G2, G3, G4, G5, G6, G7, G8, G9, G10, G11⟩ := id G
  have ltG8 : @LT.lt Nat _ gwC Z.heap.size := G8.lt
  have ltG10 : @LT.lt Nat _ gwM Z.heap.size := G10.lt
  have ltP0 : @LT.lt Nat _ xb h0.size := P0.lt
  have q1 := G2.ext O0.2
  refine qS X0 hx hby hZ hown (host := "") (Or.inl (wh hw 165 rfl)) Via.refl e0 q1 d32_0 (fun T2 X2 e2 => ?_)
  refine q_ifYes (pc := 3) X2 hx hby d32_3 (pc' := 28) ((if0 _ _).trans (feq (show ¬ ((1 : Int32) = (0 : Int32)) from by decide)).2) (by decide) (by decide) ?_
  refine q_iloadN X2 hx hby d32_28 rfl ?_
  refine q_iconst X2 hx hby d32_29 ?_
  refine gg (fun t k => XS.ishl X2.here hx rfl (hb hby d32_30) rfl k) ?_
  show own_Goes p e below (T2.setTop (mkF m 31 #[vR xb, vI 1] [(.int ((1 : Int32) <<< ((1 : Int32) &&& 31)))])) _
  rw [show ((1 : Int32) <<< ((1 : Int32) &&& 31)) = (2 : Int32) from by decide]
  refine q_istoreN X2 hx hby d32_31 (l' := #[vR xb, vI 2]) rfl ?_
  refine q_aloadN X2 hx hby d32_32 rfl rfl ?_
  refine q_iloadN X2 hx hby d32_33 rfl ?_
  refine gg (fun t k => XS.iinc X2.here hx rfl (hb hby d32_34) rfl (l' := #[vR xb, vI ((2 : Int32) + (1 : Int32))]) rfl k) ?_
  show own_Goes p e below (T2.setTop (mkF m 37 #[vR xb, vI ((2 : Int32) + (1 : Int32))] [.int 2, .ref xb])) _
  rw [show ((2 : Int32) + (1 : Int32)) = (3 : Int32) from by decide]
  refine q_baloadBytes X2 hx hby hZ e2 P0 d32_37 (.int y2) ?_
  refine q_sipush X2 hx hby d32_38 ?_
  refine q_iand X2 hx hby d32_41 ?_
  have q4 := G3.ext O0.2
  refine qS X2 hx hby hZ hown (host := "") (Or.inl (wh hw 166 rfl)) Via.refl e2 q4 d32_42 (fun T5 X5 e5 => ?_)
  refine gg (fun t k => XS.ishl X5.here hx rfl (hb hby d32_45) rfl k) ?_
  refine q_aloadN X5 hx hby d32_46 rfl rfl ?_
  refine q_iloadN X5 hx hby d32_47 rfl ?_
  refine q_baloadBytes X5 hx hby hZ e5 P0 d32_48 (.int y3) ?_
  refine q_sipush X5 hx hby d32_49 ?_
  refine q_iand X5 hx hby d32_52 ?_
  have q7 := G4.ext O0.2
  refine qS X5 hx hby hZ hown (host := "") (Or.inl (wh hw 167 rfl)) Via.refl e5 q7 d32_53 (fun T8 X8 e8 => ?_)
  refine gg (fun t k => XS.ishl X8.here hx rfl (hb hby d32_56) rfl k) ?_
  refine gg (fun t k => XS.ior X8.here hx rfl (hb hby d32_57) rfl k) ?_
  refine gg (fun t k => XS.i2c X8.here hx rfl (hb hby d32_58) rfl k) ?_
  show own_Goes p e below (T8.setTop (mkF m 59 #[vR xb, vI 3] [(.int ((((y2 &&& (255 : Int32)) <<< ((0 : Int32) &&& 31)) ||| ((y3 &&& (255 : Int32)) <<< ((8 : Int32) &&& 31))).toUInt32.toUInt16.toUInt32.toInt32))])) _
  refine r_C X8 hx hby hret hlk d32_59 e8 ?_ (hn := (own_narr16 (own_C16i _)))
  exact ⟨N0, rfl, rfl⟩
theorem own_ef_own_pc3_2 (m : MethodId) (xb : Addr) (xi : Int32) : entryFrame m #[.ref xb, .int 2, .int xi] 3 = mkF m 0 #[vR xb, vI 2, vI xi] [] := by first | (simp [entryFrame, mkF, argsToLocals, Value.category]; done) | rfl
def Q_own_pc3_2 (Z : State) (xb : Addr) (xq : ClassId) (xi : Int32) (y0 : Int32) (y1 : Int32) (y2 : Int32) (y3 : Int32) (y4 : Int32) (y5 : Int32) (gz : Int32) (gfm : Value) (gwC : Addr) (gwM : Addr) (h0 : Heap) (n0 : Nat) (v : Option Value) (h : Heap) (L : List Loc) : Prop := Fr n0 L ∧ Keep h0 h [xb] ∧ v = none ∧ Arv Z h xb xq .byte (6 : Int32) [.int y0, .int y1, .int y2, .int y3, (.int (xi.toInt8.toInt32)), (.int ((xi >>> ((8 : Int32) &&& 31)).toInt8.toInt32))] (.int 0)
theorem own_pc3_2 (l : Launch) (Z : State) (a0 : Array Value) (hw : ∀ d ∈ tables_1, d.before a0 Z = true) (ws : List Jvm.Cond) (xb : Addr) (xq : ClassId) (xi : Int32) (y0 : Int32) (y1 : Int32) (y2 : Int32) (y3 : Int32) (y4 : Int32) (y5 : Int32) (h0 : Heap) (n0 : Nat) (O0 : Old Z n0 h0) (gz : Int32) (gfm : Value) (gwC : Addr) (gwM : Addr) (G : GG Z gz gfm gwC gwM) (P0 : Arv Z h0 xb xq .byte (6 : Int32) [.int y0, .int y1, .int y2, .int y3, .int y4, .int y5] (.int 0)) (P1 : n0 ≤ xb) : own_Met l Z (⟨"java/lang/StringUTF16", "putChar", "([BII)V"⟩ : MethodName) jdk_52_method_4_code 3 none ws ({ frames := 0, cells := 0, slots := 0, locals := 0 } : Room) #[.ref xb, .int 2, .int xi] h0 (Q_own_pc3_2 Z xb xq xi y0 y1 y2 y3 y4 y5 gz gfm gwC gwM h0 n0) := by
  refine own_mk (plainFor_of_name own_pn_java_lang_StringUTF16) O0 ?_
  intro p e s m below meth c s₁ hx hby hml hZ hown hnm hlk hret X0 e0 N0 z0 z1
  have K0 : Keep h0 h0 [xb] := Keep.refl _ _
  refine own_cast (own_ef_own_pc3_2 m xb xi) ?_
  show own_Goes p e below (s₁.setTop (mkF m 0 #[vR xb, vI 2, vI xi] [])) _
  obtain ⟨G0, G1, G2, G3, G4, G5, G6, G7, G8, G9, G10, G11⟩ := id G
  have ltG8 : @LT.lt Nat _ gwC Z.heap.size := G8.lt
  have ltG10 : @LT.lt Nat _ gwM Z.heap.size := G10.lt
  have ltP0 : @LT.lt Nat _ xb h0.size := P0.lt
  have q1 := G2.ext O0.2
  refine qS X0 hx hby hZ hown (host := "") (Or.inl (wh hw 165 rfl)) Via.refl e0 q1 d31_0 (fun T2 X2 e2 => ?_)
  refine q_ifYes (pc := 3) X2 hx hby d31_3 (pc' := 28) ((if0 _ _).trans (feq (show ¬ ((1 : Int32) = (0 : Int32)) from by decide)).2) (by decide) (by decide) ?_
  refine q_iloadN X2 hx hby d31_28 rfl ?_
  refine q_iconst X2 hx hby d31_29 ?_
  refine gg (fun t k => XS.ishl X2.here hx rfl (hb hby d31_30) rfl k) ?_
  show own_Goes p e below (T2.setTop (mkF m 31 #[vR xb, vI 2, vI xi] [(.int ((2 : Int32) <<< ((1 : Int32) &&& 31)))])) _
  rw [show ((2 : Int32) <<< ((1 : Int32) &&& 31)) = (4 : Int32) from by decide]
  refine q_istoreN X2 hx hby d31_31 (l' := #[vR xb, vI 4, vI xi]) rfl ?_
  refine q_aloadN X2 hx hby d31_32 rfl rfl ?_
  refine q_iloadN X2 hx hby d31_33 rfl ?_
  refine gg (fun t k => XS.iinc X2.here hx rfl (hb hby d31_34) rfl (l' := #[vR xb, vI ((4 : Int32) + (1 : Int32)), vI xi]) rfl k) ?_
  show own_Goes p e below (T2.setTop (mkF m 37 #[vR xb, vI ((4 : Int32) + (1 : Int32)), vI xi] [.int 4, .ref xb])) _
  rw [show ((4 : Int32) + (1 : Int32)) = (5 : Int32) from by decide]
  refine q_iloadN X2 hx hby d31_37 rfl ?_
  have q3 := G3.ext O0.2
  refine qS X2 hx hby hZ hown (host := "") (Or.inl (wh hw 166 rfl)) Via.refl e2 q3 d31_38 (fun T4 X4 e4 => ?_)
  refine gg (fun t k => XS.ishr X4.here hx rfl (hb hby d31_41) rfl k) ?_
  show own_Goes p e below (T4.setTop (mkF m 42 #[vR xb, vI 5, vI xi] [(.int (xi >>> ((0 : Int32) &&& 31))), .int 4, .ref xb])) _
  rw [show (xi >>> ((0 : Int32) &&& 31)) = xi from own_sh0 xi]
  refine gg (fun t k => XS.i2b X4.here hx rfl (hb hby d31_42) rfl k) ?_
  refine q_stB X4 hx hby hZ e4 P0 4 d31_43 (fun T6 h6 X6 e6 W6 V6 => ?_)
  have O7 := O0.wr W6 (show n0 ≤ xb by omega)
  have sz8 : h6.size = h0.size := Wr.size W6
  have K9 := K0.wr W6 (Or.inl (List.mem_of_getElem? (i := 0) rfl))
  have N6 := Fr.snoc X6 N0 (show n0 ≤ xb by omega)
  have V6 : Arv Z h6 xb xq .byte (6 : Int32) [.int y0, .int y1, .int y2, .int y3, (.int ((xi.toInt8.toInt32).toInt8.toInt32)), .int y5] (.int 0) := V6
  rw [show ((xi.toInt8.toInt32).toInt8.toInt32) = (xi.toInt8.toInt32) from own_i8i8 _] at V6
  refine q_aloadN X6 hx hby d31_44 rfl rfl ?_
  refine q_iloadN X6 hx hby d31_45 rfl ?_
  refine q_iloadN X6 hx hby d31_46 rfl ?_
  have q10 := G4.ext O7.2
  refine qS X6 hx hby hZ hown (host := "") (Or.inl (wh hw 167 rfl)) Via.refl e6 q10 d31_47 (fun T11 X11 e11 => ?_)
  refine gg (fun t k => XS.ishr X11.here hx rfl (hb hby d31_50) rfl k) ?_
  refine gg (fun t k => XS.i2b X11.here hx rfl (hb hby d31_51) rfl k) ?_
  refine q_stB X11 hx hby hZ e11 V6 5 d31_52 (fun T13 h13 X13 e13 W13 V13 => ?_)
  have O14 := O7.wr W13 (show n0 ≤ xb by omega)
  have sz15 : h13.size = h6.size := Wr.size W13
  have K16 := K9.wr W13 (Or.inl (List.mem_of_getElem? (i := 0) rfl))
  have N13 := Fr.snoc X13 N6 (show n0 ≤ xb by omega)
  have V13 : Arv Z h13 xb xq .byte (6 : Int32) [.int y0, .int y1, .int y2, .int y3, (.int (xi.toInt8.toInt32)), (.int (((xi >>> ((8 : Int32) &&& 31)).toInt8.toInt32).toInt8.toInt32))] (.int 0) := V13
  rw [show (((xi >>> ((8 : Int32) &&& 31)).toInt8.toInt32).toInt8.toInt32) = ((xi >>> ((8 : Int32) &&& 31)).toInt8.toInt32) from own_i8i8 _] at V13
  refine r_V X13 hx hby hret hlk d31_53 e13 ?_
  exact ⟨N13, K16, rfl, V13⟩
theorem own_ef_own_gc3_2 (m : MethodId) (xb : Addr) : entryFrame m #[.ref xb, .int 2] 2 = mkF m 0 #[vR xb, vI 2] [] := by first | (simp [entryFrame, mkF, argsToLocals, Value.category]; done) | rfl
def Q_own_gc3_2 (Z : State) (xb : Addr) (xq : ClassId) (y0 : Int32) (y1 : Int32) (y2 : Int32) (y3 : Int32) (y4 : Int32) (y5 : Int32) (gz : Int32) (gfm : Value) (gwC : Addr) (gwM : Addr) (h0 : Heap) (n0 : Nat) (v : Option Value) (h : Heap) (L : List Loc) : Prop := Fr n0 L ∧ h = h0 ∧ v = some (.int ((((y4 &&& (255 : Int32)) <<< ((0 : Int32) &&& 31)) ||| ((y5 &&& (255 : Int32)) <<< ((8 : Int32) &&& 31))).toUInt32.toUInt16.toUInt32.toInt32))
theorem own_gc3_2 (l : Launch) (Z : State) (a0 : Array Value) (hw : ∀ d ∈ tables_1, d.before a0 Z = true) (ws : List Jvm.Cond) (xb : Addr) (xq : ClassId) (y0 : Int32) (y1 : Int32) (y2 : Int32) (y3 : Int32) (y4 : Int32) (y5 : Int32) (h0 : Heap) (n0 : Nat) (O0 : Old Z n0 h0) (gz : Int32) (gfm : Value) (gwC : Addr) (gwM : Addr) (G : GG Z gz gfm gwC gwM) (P0 : Arv Z h0 xb xq .byte (6 : Int32) [.int y0, .int y1, .int y2, .int y3, .int y4, .int y5] (.int 0)) : own_Met l Z (⟨"java/lang/StringUTF16", "getChar", "([BI)C"⟩ : MethodName) jdk_52_method_5_code 2 (some .char) ws ({ frames := 0, cells := 0, slots := 0, locals := 0 } : Room) #[.ref xb, .int 2] h0 (Q_own_gc3_2 Z xb xq y0 y1 y2 y3 y4 y5 gz gfm gwC gwM h0 n0) := by
  refine own_mk (plainFor_of_name own_pn_java_lang_StringUTF16) O0 ?_
  intro p e s m below meth c s₁ hx hby hml hZ hown hnm hlk hret X0 e0 N0 z0 z1
  refine own_cast (own_ef_own_gc3_2 m xb) ?_
  show own_Goes p e below (s₁.setTop (mkF m 0 #[vR xb, vI 2] [])) _
  obtain ⟨G0, G1, G2, G3, G4, G5, G6, G7, G8, G9, G10, G11⟩ := id G
  have ltG8 : @LT.lt Nat _ gwC Z.heap.size := G8.lt
  have ltG10 : @LT.lt Nat _ gwM Z.heap.size := G10.lt
  have ltP0 : @LT.lt Nat _ xb h0.size := P0.lt
  have q1 := G2.ext O0.2
  refine qS X0 hx hby hZ hown (host := "") (Or.inl (wh hw 165 rfl)) Via.refl e0 q1 d32_0 (fun T2 X2 e2 => ?_)
  refine q_ifYes (pc := 3) X2 hx hby d32_3 (pc' := 28) ((if0 _ _).trans (feq (show ¬ ((1 : Int32) = (0 : Int32)) from by decide)).2) (by decide) (by decide) ?_
  refine q_iloadN X2 hx hby d32_28 rfl ?_
  refine q_iconst X2 hx hby d32_29 ?_
  refine gg (fun t k => XS.ishl X2.here hx rfl (hb hby d32_30) rfl k) ?_
  show own_Goes p e below (T2.setTop (mkF m 31 #[vR xb, vI 2] [(.int ((2 : Int32) <<< ((1 : Int32) &&& 31)))])) _
  rw [show ((2 : Int32) <<< ((1 : Int32) &&& 31)) = (4 : Int32) from by decide]
  refine q_istoreN X2 hx hby d32_31 (l' := #[vR xb, vI 4]) rfl ?_
  refine q_aloadN X2 hx hby d32_32 rfl rfl ?_
  refine q_iloadN X2 hx hby d32_33 rfl ?_
  refine gg (fun t k => XS.iinc X2.here hx rfl (hb hby d32_34) rfl (l' := #[vR xb, vI ((4 : Int32) + (1 : Int32))]) rfl k) ?_
  show own_Goes p e below (T2.setTop (mkF m 37 #[vR xb, vI ((4 : Int32) + (1 : Int32))] [.int 4, .ref xb])) _
  rw [show ((4 : Int32) + (1 : Int32)) = (5 : Int32) from by decide]
  refine q_baloadBytes X2 hx hby hZ e2 P0 d32_37 (.int y4) ?_
  refine q_sipush X2 hx hby d32_38 ?_
  refine q_iand X2 hx hby d32_41 ?_
  have q4 := G3.ext O0.2
  refine qS X2 hx hby hZ hown (host := "") (Or.inl (wh hw 166 rfl)) Via.refl e2 q4 d32_42 (fun T5 X5 e5 => ?_)
  refine gg (fun t k => XS.ishl X5.here hx rfl (hb hby d32_45) rfl k) ?_
  refine q_aloadN X5 hx hby d32_46 rfl rfl ?_
  refine q_iloadN X5 hx hby d32_47 rfl ?_
  refine q_baloadBytes X5 hx hby hZ e5 P0 d32_48 (.int y5) ?_
  refine q_sipush X5 hx hby d32_49 ?_
  refine q_iand X5 hx hby d32_52 ?_
  have q7 := G4.ext O0.2
  refine qS X5 hx hby hZ hown (host := "") (Or.inl (wh hw 167 rfl)) Via.refl e5 q7 d32_53 (fun T8 X8 e8 => ?_)
  refine gg (fun t k => XS.ishl X8.here hx rfl (hb hby d32_56) rfl k) ?_
  refine gg (fun t k => XS.ior X8.here hx rfl (hb hby d32_57) rfl k) ?_
  refine gg (fun t k => XS.i2c X8.here hx rfl (hb hby d32_58) rfl k) ?_
  show own_Goes p e below (T8.setTop (mkF m 59 #[vR xb, vI 5] [(.int ((((y4 &&& (255 : Int32)) <<< ((0 : Int32) &&& 31)) ||| ((y5 &&& (255 : Int32)) <<< ((8 : Int32) &&& 31))).toUInt32.toUInt16.toUInt32.toInt32))])) _
  refine r_C X8 hx hby hret hlk d32_59 e8 ?_ (hn := (own_narr16 (own_C16i _)))
  exact ⟨N0, rfl, rfl⟩
theorem own_ef_own_toBy3 (m : MethodId) (xc : Addr) : entryFrame m #[.ref xc, .int 0, .int 3] 5 = mkF m 0 #[vR xc, vI 0, vI 3, uS, uS] [] := by first | (simp [entryFrame, mkF, argsToLocals, Value.category]; done) | rfl
def Q_own_toBy3 (Z : State) (xc : Addr) (xk : ClassId) (c0 : Int32) (c1 : Int32) (c2 : Int32) (gz : Int32) (gfm : Value) (gwC : Addr) (gwM : Addr) (h0 : Heap) (n0 : Nat) (v : Option Value) (h : Heap) (L : List Loc) : Prop := Fr n0 L ∧ Keep h0 h [] ∧ ∃ (r : Addr), ∃ (rk : ClassId), v = some (.ref r) ∧ Arv Z h r rk .byte (6 : Int32) [(.int (c0.toInt8.toInt32)), (.int ((c0 >>> ((8 : Int32) &&& 31)).toInt8.toInt32)), (.int (c1.toInt8.toInt32)), (.int ((c1 >>> ((8 : Int32) &&& 31)).toInt8.toInt32)), (.int (c2.toInt8.toInt32)), (.int ((c2 >>> ((8 : Int32) &&& 31)).toInt8.toInt32))] (.int 0) ∧ h0.size ≤ r
theorem own_toBy3 (l : Launch) (Z : State) (a0 : Array Value) (hw : ∀ d ∈ tables_1, d.before a0 Z = true) (ws : List Jvm.Cond) (xc : Addr) (xk : ClassId) (c0 : Int32) (c1 : Int32) (c2 : Int32) (h0 : Heap) (n0 : Nat) (O0 : Old Z n0 h0) (gz : Int32) (gfm : Value) (gwC : Addr) (gwM : Addr) (G : GG Z gz gfm gwC gwM) (P0 : Arv Z h0 xc xk .char (3 : Int32) [.int c0, .int c1, .int c2] (.int 0)) : own_Met l Z (⟨"java/lang/StringUTF16", "toBytes", "([CII)[B"⟩ : MethodName) jdk_52_method_14_code 5 (some (.array .byte)) ws ({ frames := 2, cells := 1, slots := 6, locals := 24 } : Room) #[.ref xc, .int 0, .int 3] h0 (Q_own_toBy3 Z xc xk c0 c1 c2 gz gfm gwC gwM h0 n0) := by
  refine own_mk (plainFor_of_name own_pn_java_lang_StringUTF16) O0 ?_
  intro p e s m below meth c s₁ hx hby hml hZ hown hnm hlk hret X0 e0 N0 z0 z1
  have K0 : Keep h0 h0 [] := Keep.refl _ _
  refine own_cast (own_ef_own_toBy3 m xc) ?_
  show own_Goes p e below (s₁.setTop (mkF m 0 #[vR xc, vI 0, vI 3, uS, uS] [])) _
  obtain ⟨G0, G1, G2, G3, G4, G5, G6, G7, G8, G9, G10, G11⟩ := id G
  have ltG8 : @LT.lt Nat _ gwC Z.heap.size := G8.lt
  have ltG10 : @LT.lt Nat _ gwM Z.heap.size := G10.lt
  have ltP0 : @LT.lt Nat _ xc h0.size := P0.lt
  refine q_iloadN X0 hx hby d28_0 rfl ?_
  refine k_S X0 hx hby hZ hown (wh hw 155 rfl) (wh hw 156 rfl) (W := 0) (own_nbf3 l Z a0 hw []  h0 n0 O0) (wh hw 157 rfl) (wh hw 29 rfl) e0  hml (argsL := [.int 3]) (rest := []) own_pd_1 d28_1 (fun _ T1 L1 X1 hQ1 => ?_)
  obtain ⟨h1, e1⟩ : ∃ z, T1.heap = z := ⟨_, rfl⟩
  rw [e1] at hQ1
  obtain ⟨Nc1, Kc1, r_1, rk_1, rfl, c1_0, c1_1⟩ := hQ1
  have N1 := Fr.app N0 Nc1
  have O2 := O0.keep Kc1 all0
  have sz3 : h0.size ≤ h1.size := Kc1.1
  have K4 := Keep.trans K0 Kc1 all0
  have ltc1_0 : @LT.lt Nat _ r_1 h1.size := c1_0.lt
  refine q_astoreN X1 hx hby d28_4 rfl (l' := #[vR xc, vI 0, vI 3, vR r_1, uS]) rfl ?_
  refine q_iconst X1 hx hby d28_5 ?_
  refine q_istore X1 hx hby d28_6 (l' := #[vR xc, vI 0, vI 3, vR r_1, vI 0]) rfl ?_
  refine q_iload X1 hx hby d28_8 rfl ?_
  refine q_iloadN X1 hx hby d28_10 rfl ?_
  refine q_icmpNo X1 hx hby d28_11 (tlt (show ((0 : Int32) < (3 : Int32)) from by decide)).2.1 ?_
  refine q_aloadN X1 hx hby d28_14 rfl rfl ?_
  refine q_iload X1 hx hby d28_15 rfl ?_
  refine q_aloadN X1 hx hby d28_17 rfl rfl ?_
  refine q_iloadN X1 hx hby d28_18 rfl ?_
  have f5 := (P0.keep Kc1 nin0)
  refine q_caload X1 hx hby hZ e1 f5 d28_19 (.int c0) ?_
  refine k_S X1 hx hby hZ hown (wh hw 162 rfl) (wh hw 163 rfl) (W := 0) (own_pc3_0 l Z a0 hw [] r_1 rk_1 c0 (0 : Int32) (0 : Int32) (0 : Int32) (0 : Int32) (0 : Int32) (0 : Int32) h1 n0 O2 gz gfm gwC gwM G c1_0 (show n0 ≤ r_1 by first | assumption | omega | decide)) (wh hw 164 rfl) (wh hw 29 rfl) e1  hml (argsL := [.ref r_1, .int 0, .int c0]) (rest := []) own_pd_2 d28_20 (fun _ T7 L7 X7 hQ7 => ?_)
  obtain ⟨h7, e7⟩ : ∃ z, T7.heap = z := ⟨_, rfl⟩
  rw [e7] at hQ7
  obtain ⟨Nc7, Kc7, rfl, c7_0⟩ := hQ7
  have N7 := Fr.app N1 Nc7
  have O8 := O2.keep Kc7 (allS (show n0 ≤ r_1 by omega) all0)
  have sz9 : h1.size ≤ h7.size := Kc7.1
  have K10 := Keep.trans K4 Kc7 (allS (Or.inr (show h0.size ≤ r_1 by omega)) all0)
  have ltc7_0 : @LT.lt Nat _ r_1 h7.size := c7_0.lt
  show own_Goes p e below (T7.setTop (mkF m 23 #[vR xc, vI 0, vI 3, vR r_1, vI 0] [])) _
  refine gg (fun t k => XS.iinc X7.here hx rfl (hb hby d28_23) rfl (l' := #[vR xc, vI ((0 : Int32) + (1 : Int32)), vI 3, vR r_1, vI 0]) rfl k) ?_
  show own_Goes p e below (T7.setTop (mkF m 26 #[vR xc, vI ((0 : Int32) + (1 : Int32)), vI 3, vR r_1, vI 0] [])) _
  rw [show ((0 : Int32) + (1 : Int32)) = (1 : Int32) from by decide]
  refine gg (fun t k => XS.iinc X7.here hx rfl (hb hby d28_26) rfl (l' := #[vR xc, vI 1, vI 3, vR r_1, vI ((0 : Int32) + (1 : Int32))]) rfl k) ?_
  show own_Goes p e below (T7.setTop (mkF m 29 #[vR xc, vI 1, vI 3, vR r_1, vI ((0 : Int32) + (1 : Int32))] [])) _
  rw [show ((0 : Int32) + (1 : Int32)) = (1 : Int32) from by decide]
  refine q_goto (pc := 29) X7 hx hby d28_29 (pc' := 8) (by decide) (by decide) ?_
  refine q_iload X7 hx hby d28_8 rfl ?_
  refine q_iloadN X7 hx hby d28_10 rfl ?_
  refine q_icmpNo X7 hx hby d28_11 (tlt (show ((1 : Int32) < (3 : Int32)) from by decide)).2.1 ?_
  refine q_aloadN X7 hx hby d28_14 rfl rfl ?_
  refine q_iload X7 hx hby d28_15 rfl ?_
  refine q_aloadN X7 hx hby d28_17 rfl rfl ?_
  refine q_iloadN X7 hx hby d28_18 rfl ?_
  have f11 := (f5.keep Kc7 (ninS (nE xc r_1 (by omega)) nin0))
  refine q_caload X7 hx hby hZ e7 f11 d28_19 (.int c1) ?_
  refine k_S X7 hx hby hZ hown (wh hw 162 rfl) (wh hw 163 rfl) (W := 0) (own_pc3_1 l Z a0 hw [] r_1 rk_1 c1 (c0.toInt8.toInt32) ((c0 >>> ((8 : Int32) &&& 31)).toInt8.toInt32) (0 : Int32) (0 : Int32) (0 : Int32) (0 : Int32) h7 n0 O8 gz gfm gwC gwM G c7_0 (show n0 ≤ r_1 by first | assumption | omega | decide)) (wh hw 164 rfl) (wh hw 29 rfl) e7  hml (argsL := [.ref r_1, .int 1, .int c1]) (rest := []) own_pd_2 d28_20 (fun _ T13 L13 X13 hQ13 => ?_)
  obtain ⟨h13, e13⟩ : ∃ z, T13.heap = z := ⟨_, rfl⟩
  rw [e13] at hQ13
  obtain ⟨Nc13, Kc13, rfl, c13_0⟩ := hQ13
  have N13 := Fr.app N7 Nc13
  have O14 := O8.keep Kc13 (allS (show n0 ≤ r_1 by omega) all0)
  have sz15 : h7.size ≤ h13.size := Kc13.1
  have K16 := Keep.trans K10 Kc13 (allS (Or.inr (show h0.size ≤ r_1 by omega)) all0)
  have ltc13_0 : @LT.lt Nat _ r_1 h13.size := c13_0.lt
  refine gg (fun t k => XS.iinc X13.here hx rfl (hb hby d28_23) rfl (l' := #[vR xc, vI ((1 : Int32) + (1 : Int32)), vI 3, vR r_1, vI 1]) rfl k) ?_
  show own_Goes p e below (T13.setTop (mkF m 26 #[vR xc, vI ((1 : Int32) + (1 : Int32)), vI 3, vR r_1, vI 1] [])) _
  rw [show ((1 : Int32) + (1 : Int32)) = (2 : Int32) from by decide]
  refine gg (fun t k => XS.iinc X13.here hx rfl (hb hby d28_26) rfl (l' := #[vR xc, vI 2, vI 3, vR r_1, vI ((1 : Int32) + (1 : Int32))]) rfl k) ?_
  show own_Goes p e below (T13.setTop (mkF m 29 #[vR xc, vI 2, vI 3, vR r_1, vI ((1 : Int32) + (1 : Int32))] [])) _
  rw [show ((1 : Int32) + (1 : Int32)) = (2 : Int32) from by decide]
  refine q_goto (pc := 29) X13 hx hby d28_29 (pc' := 8) (by decide) (by decide) ?_
  refine q_iload X13 hx hby d28_8 rfl ?_
  refine q_iloadN X13 hx hby d28_10 rfl ?_
  refine q_icmpNo X13 hx hby d28_11 (tlt (show ((2 : Int32) < (3 : Int32)) from by decide)).2.1 ?_
  refine q_aloadN X13 hx hby d28_14 rfl rfl ?_
  refine q_iload X13 hx hby d28_15 rfl ?_
  refine q_aloadN X13 hx hby d28_17 rfl rfl ?_
  refine q_iloadN X13 hx hby d28_18 rfl ?_
  have f17 := (f11.keep Kc13 (ninS (nE xc r_1 (by omega)) nin0))
  refine q_caload X13 hx hby hZ e13 f17 d28_19 (.int c2) ?_
  refine k_S X13 hx hby hZ hown (wh hw 162 rfl) (wh hw 163 rfl) (W := 0) (own_pc3_2 l Z a0 hw [] r_1 rk_1 c2 (c0.toInt8.toInt32) ((c0 >>> ((8 : Int32) &&& 31)).toInt8.toInt32) (c1.toInt8.toInt32) ((c1 >>> ((8 : Int32) &&& 31)).toInt8.toInt32) (0 : Int32) (0 : Int32) h13 n0 O14 gz gfm gwC gwM G c13_0 (show n0 ≤ r_1 by first | assumption | omega | decide)) (wh hw 164 rfl) (wh hw 29 rfl) e13  hml (argsL := [.ref r_1, .int 2, .int c2]) (rest := []) own_pd_2 d28_20 (fun _ T19 L19 X19 hQ19 => ?_)
  obtain ⟨h19, e19⟩ : ∃ z, T19.heap = z := ⟨_, rfl⟩
  rw [e19] at hQ19
  obtain ⟨Nc19, Kc19, rfl, c19_0⟩ := hQ19
  have N19 := Fr.app N13 Nc19
  have O20 := O14.keep Kc19 (allS (show n0 ≤ r_1 by omega) all0)
  have sz21 : h13.size ≤ h19.size := Kc19.1
  have K22 := Keep.trans K16 Kc19 (allS (Or.inr (show h0.size ≤ r_1 by omega)) all0)
  have ltc19_0 : @LT.lt Nat _ r_1 h19.size := c19_0.lt
  refine gg (fun t k => XS.iinc X19.here hx rfl (hb hby d28_23) rfl (l' := #[vR xc, vI ((2 : Int32) + (1 : Int32)), vI 3, vR r_1, vI 2]) rfl k) ?_
  show own_Goes p e below (T19.setTop (mkF m 26 #[vR xc, vI ((2 : Int32) + (1 : Int32)), vI 3, vR r_1, vI 2] [])) _
  rw [show ((2 : Int32) + (1 : Int32)) = (3 : Int32) from by decide]
  refine gg (fun t k => XS.iinc X19.here hx rfl (hb hby d28_26) rfl (l' := #[vR xc, vI 3, vI 3, vR r_1, vI ((2 : Int32) + (1 : Int32))]) rfl k) ?_
  show own_Goes p e below (T19.setTop (mkF m 29 #[vR xc, vI 3, vI 3, vR r_1, vI ((2 : Int32) + (1 : Int32))] [])) _
  rw [show ((2 : Int32) + (1 : Int32)) = (3 : Int32) from by decide]
  refine q_goto (pc := 29) X19 hx hby d28_29 (pc' := 8) (by decide) (by decide) ?_
  refine q_iload X19 hx hby d28_8 rfl ?_
  refine q_iloadN X19 hx hby d28_10 rfl ?_
  refine q_icmpYes (pc := 11) X19 hx hby d28_11 (pc' := 32) (flt (show ¬ ((3 : Int32) < (3 : Int32)) from by decide)).2.1 (by decide) (by decide) ?_
  refine q_aloadN X19 hx hby d28_32 rfl rfl ?_
  refine r_R X19 hx hby hret hlk d28_33 e19 ?_
  exact ⟨N19, K22, r_1, rk_1, rfl, c19_0, (show h0.size ≤ r_1 by first | assumption | omega | decide)⟩
theorem own_ef_own_ci3 (m : MethodId) (xc : Addr) (xb : Addr) : entryFrame m #[.ref xc, .int 0, .ref xb, .int 0, .int 3] 7 = mkF m 0 #[vR xc, vI 0, vR xb, vI 0, vI 3, uS, uS] [] := by first | (simp [entryFrame, mkF, argsToLocals, Value.category]; done) | rfl
def Q_own_ci3 (Z : State) (xc : Addr) (xk : ClassId) (xb : Addr) (xq : ClassId) (c0 : Int32) (c1 : Int32) (c2 : Int32) (h0 : Heap) (n0 : Nat) (v : Option Value) (h : Heap) (L : List Loc) : Prop := Fr n0 L ∧ Keep h0 h [xb] ∧ ∃ (r : Int32), ∃ (y0 : Int32), ∃ (y1 : Int32), ∃ (y2 : Int32), v = some (.int r) ∧ Arv Z h xb xq .byte (3 : Int32) [.int y0, .int y1, .int y2] (.int 0) ∧ ((r = (3 : Int32) ∧ y0 = (c0.toInt8.toInt32) ∧ y1 = (c1.toInt8.toInt32) ∧ y2 = (c2.toInt8.toInt32) ∧ ¬ (255 : Int32) < c0 ∧ ¬ (255 : Int32) < c1 ∧ ¬ (255 : Int32) < c2) ∨ (r = (0 : Int32) ∧ (255 : Int32) < c0) ∨ (r = (1 : Int32) ∧ (255 : Int32) < c1) ∨ (r = (2 : Int32) ∧ (255 : Int32) < c2))
theorem own_ci3 (l : Launch) (Z : State) (a0 : Array Value) (hw : ∀ d ∈ tables_1, d.before a0 Z = true) (ws : List Jvm.Cond) (xc : Addr) (xk : ClassId) (xb : Addr) (xq : ClassId) (c0 : Int32) (c1 : Int32) (c2 : Int32) (h0 : Heap) (n0 : Nat) (O0 : Old Z n0 h0) (P0 : Arv Z h0 xc xk .char (3 : Int32) [.int c0, .int c1, .int c2] (.int 0)) (P1 : Arv Z h0 xb xq .byte (3 : Int32) [.int 0, .int 0, .int 0] (.int 0)) (P2 : @LT.lt Nat _ xc xb) (P3 : n0 ≤ xb) : own_Met l Z (⟨"java/lang/StringUTF16", "compress", "([CI[BII)I"⟩ : MethodName) jdk_52_method_21_code 7 (some .int) ws ({ frames := 0, cells := 0, slots := 0, locals := 0 } : Room) #[.ref xc, .int 0, .ref xb, .int 0, .int 3] h0 (Q_own_ci3 Z xc xk xb xq c0 c1 c2 h0 n0) := by
  refine own_mk (plainFor_of_name own_pn_java_lang_StringUTF16) O0 ?_
  intro p e s m below meth c s₁ hx hby hml hZ hown hnm hlk hret X0 e0 N0 z0 z1
  have K0 : Keep h0 h0 [xb] := Keep.refl _ _
  refine own_cast (own_ef_own_ci3 m xc xb) ?_
  show own_Goes p e below (s₁.setTop (mkF m 0 #[vR xc, vI 0, vR xb, vI 0, vI 3, uS, uS] [])) _
  have ltP0 : @LT.lt Nat _ xc h0.size := P0.lt
  have ltP1 : @LT.lt Nat _ xb h0.size := P1.lt
  refine q_iconst X0 hx hby d6_0 ?_
  refine q_istore X0 hx hby d6_1 (l' := #[vR xc, vI 0, vR xb, vI 0, vI 3, vI 0, uS]) rfl ?_
  refine q_iload X0 hx hby d6_3 rfl ?_
  refine q_iload X0 hx hby d6_5 rfl ?_
  refine q_icmpNo X0 hx hby d6_7 (tlt (show ((0 : Int32) < (3 : Int32)) from by decide)).2.1 ?_
  refine q_aloadN X0 hx hby d6_10 rfl rfl ?_
  refine q_iloadN X0 hx hby d6_11 rfl ?_
  refine q_caload X0 hx hby hZ e0 P0 d6_12 (.int c0) ?_
  refine q_istore X0 hx hby d6_13 (l' := #[vR xc, vI 0, vR xb, vI 0, vI 3, vI 0, vI c0]) rfl ?_
  refine q_iload X0 hx hby d6_15 rfl ?_
  refine q_sipush X0 hx hby d6_17 ?_
  by_cases hc2 : (255 : Int32) < c0
  · refine q_icmpNo X0 hx hby d6_20 (tlt hc2).2.2.2 ?_
    refine q_iload X0 hx hby d6_23 rfl ?_
    refine r_I X0 hx hby hret hlk d6_25 e0 ?_
    exact ⟨N0, K0, (0 : Int32), (0 : Int32), (0 : Int32), (0 : Int32), rfl, P1, (Or.inr (Or.inl ⟨rfl, hc2⟩))⟩
  · refine q_icmpYes (pc := 20) X0 hx hby d6_20 (pc' := 26) (flt hc2).2.2.2 (by decide) (by decide) ?_
    show own_Goes p e below (s₁.setTop (mkF m 26 #[vR xc, vI 0, vR xb, vI 0, vI 3, vI 0, vI c0] [])) _
    refine q_aloadN X0 hx hby d6_26 rfl rfl ?_
    refine q_iloadN X0 hx hby d6_27 rfl ?_
    refine q_iload X0 hx hby d6_28 rfl ?_
    refine gg (fun t k => XS.i2b X0.here hx rfl (hb hby d6_30) rfl k) ?_
    refine q_stB X0 hx hby hZ e0 P1 0 d6_31 (fun T4 h4 X4 e4 W4 V4 => ?_)
    have O5 := O0.wr W4 (show n0 ≤ xb by omega)
    have sz6 : h4.size = h0.size := Wr.size W4
    have K7 := K0.wr W4 (Or.inl (List.mem_of_getElem? (i := 0) rfl))
    have N4 := Fr.snoc X4 N0 (show n0 ≤ xb by omega)
    have V4 : Arv Z h4 xb xq .byte (3 : Int32) [(.int ((c0.toInt8.toInt32).toInt8.toInt32)), .int 0, .int 0] (.int 0) := V4
    rw [show ((c0.toInt8.toInt32).toInt8.toInt32) = (c0.toInt8.toInt32) from own_i8i8 _] at V4
    refine gg (fun t k => XS.iinc X4.here hx rfl (hb hby d6_32) rfl (l' := #[vR xc, vI ((0 : Int32) + (1 : Int32)), vR xb, vI 0, vI 3, vI 0, vI c0]) rfl k) ?_
    show own_Goes p e below (T4.setTop (mkF m 35 #[vR xc, vI ((0 : Int32) + (1 : Int32)), vR xb, vI 0, vI 3, vI 0, vI c0] [])) _
    rw [show ((0 : Int32) + (1 : Int32)) = (1 : Int32) from by decide]
    refine gg (fun t k => XS.iinc X4.here hx rfl (hb hby d6_35) rfl (l' := #[vR xc, vI 1, vR xb, vI ((0 : Int32) + (1 : Int32)), vI 3, vI 0, vI c0]) rfl k) ?_
    show own_Goes p e below (T4.setTop (mkF m 38 #[vR xc, vI 1, vR xb, vI ((0 : Int32) + (1 : Int32)), vI 3, vI 0, vI c0] [])) _
    rw [show ((0 : Int32) + (1 : Int32)) = (1 : Int32) from by decide]
    refine gg (fun t k => XS.iinc X4.here hx rfl (hb hby d6_38) rfl (l' := #[vR xc, vI 1, vR xb, vI 1, vI 3, vI ((0 : Int32) + (1 : Int32)), vI c0]) rfl k) ?_
    show own_Goes p e below (T4.setTop (mkF m 41 #[vR xc, vI 1, vR xb, vI 1, vI 3, vI ((0 : Int32) + (1 : Int32)), vI c0] [])) _
    rw [show ((0 : Int32) + (1 : Int32)) = (1 : Int32) from by decide]
    refine q_goto (pc := 41) X4 hx hby d6_41 (pc' := 3) (by decide) (by decide) ?_
    refine q_iload X4 hx hby d6_3 rfl ?_
    refine q_iload X4 hx hby d6_5 rfl ?_
    refine q_icmpNo X4 hx hby d6_7 (tlt (show ((1 : Int32) < (3 : Int32)) from by decide)).2.1 ?_
    refine q_aloadN X4 hx hby d6_10 rfl rfl ?_
    refine q_iloadN X4 hx hby d6_11 rfl ?_
    have f8 := (P0.other W4 (nE xc xb (by omega)))
    refine q_caload X4 hx hby hZ e4 f8 d6_12 (.int c1) ?_
    refine q_istore X4 hx hby d6_13 (l' := #[vR xc, vI 1, vR xb, vI 1, vI 3, vI 1, vI c1]) rfl ?_
    refine q_iload X4 hx hby d6_15 rfl ?_
    refine q_sipush X4 hx hby d6_17 ?_
    by_cases hc10 : (255 : Int32) < c1
    · refine q_icmpNo X4 hx hby d6_20 (tlt hc10).2.2.2 ?_
      refine q_iload X4 hx hby d6_23 rfl ?_
      refine r_I X4 hx hby hret hlk d6_25 e4 ?_
      exact ⟨N4, K7, (1 : Int32), (c0.toInt8.toInt32), (0 : Int32), (0 : Int32), rfl, V4, (Or.inr (Or.inr (Or.inl ⟨rfl, hc10⟩)))⟩
    · refine q_icmpYes (pc := 20) X4 hx hby d6_20 (pc' := 26) (flt hc10).2.2.2 (by decide) (by decide) ?_
      refine q_aloadN X4 hx hby d6_26 rfl rfl ?_
      show own_Goes p e below (T4.setTop (mkF m 27 #[vR xc, vI 1, vR xb, vI 1, vI 3, vI 1, vI c1] [.ref xb])) _
      refine q_iloadN X4 hx hby d6_27 rfl ?_
      refine q_iload X4 hx hby d6_28 rfl ?_
      refine gg (fun t k => XS.i2b X4.here hx rfl (hb hby d6_30) rfl k) ?_
      refine q_stB X4 hx hby hZ e4 V4 1 d6_31 (fun T12 h12 X12 e12 W12 V12 => ?_)
      have O13 := O5.wr W12 (show n0 ≤ xb by omega)
      have sz14 : h12.size = h4.size := Wr.size W12
      have K15 := K7.wr W12 (Or.inl (List.mem_of_getElem? (i := 0) rfl))
      have N12 := Fr.snoc X12 N4 (show n0 ≤ xb by omega)
      have V12 : Arv Z h12 xb xq .byte (3 : Int32) [(.int (c0.toInt8.toInt32)), (.int ((c1.toInt8.toInt32).toInt8.toInt32)), .int 0] (.int 0) := V12
      rw [show ((c1.toInt8.toInt32).toInt8.toInt32) = (c1.toInt8.toInt32) from own_i8i8 _] at V12
      refine gg (fun t k => XS.iinc X12.here hx rfl (hb hby d6_32) rfl (l' := #[vR xc, vI ((1 : Int32) + (1 : Int32)), vR xb, vI 1, vI 3, vI 1, vI c1]) rfl k) ?_
      show own_Goes p e below (T12.setTop (mkF m 35 #[vR xc, vI ((1 : Int32) + (1 : Int32)), vR xb, vI 1, vI 3, vI 1, vI c1] [])) _
      rw [show ((1 : Int32) + (1 : Int32)) = (2 : Int32) from by decide]
      refine gg (fun t k => XS.iinc X12.here hx rfl (hb hby d6_35) rfl (l' := #[vR xc, vI 2, vR xb, vI ((1 : Int32) + (1 : Int32)), vI 3, vI 1, vI c1]) rfl k) ?_
      show own_Goes p e below (T12.setTop (mkF m 38 #[vR xc, vI 2, vR xb, vI ((1 : Int32) + (1 : Int32)), vI 3, vI 1, vI c1] [])) _
      rw [show ((1 : Int32) + (1 : Int32)) = (2 : Int32) from by decide]
      refine gg (fun t k => XS.iinc X12.here hx rfl (hb hby d6_38) rfl (l' := #[vR xc, vI 2, vR xb, vI 2, vI 3, vI ((1 : Int32) + (1 : Int32)), vI c1]) rfl k) ?_
      show own_Goes p e below (T12.setTop (mkF m 41 #[vR xc, vI 2, vR xb, vI 2, vI 3, vI ((1 : Int32) + (1 : Int32)), vI c1] [])) _
      rw [show ((1 : Int32) + (1 : Int32)) = (2 : Int32) from by decide]
      refine q_goto (pc := 41) X12 hx hby d6_41 (pc' := 3) (by decide) (by decide) ?_
      refine q_iload X12 hx hby d6_3 rfl ?_
      refine q_iload X12 hx hby d6_5 rfl ?_
      refine q_icmpNo X12 hx hby d6_7 (tlt (show ((2 : Int32) < (3 : Int32)) from by decide)).2.1 ?_
      refine q_aloadN X12 hx hby d6_10 rfl rfl ?_
      refine q_iloadN X12 hx hby d6_11 rfl ?_
      have f16 := (f8.other W12 (nE xc xb (by omega)))
      refine q_caload X12 hx hby hZ e12 f16 d6_12 (.int c2) ?_
      refine q_istore X12 hx hby d6_13 (l' := #[vR xc, vI 2, vR xb, vI 2, vI 3, vI 2, vI c2]) rfl ?_
      refine q_iload X12 hx hby d6_15 rfl ?_
      refine q_sipush X12 hx hby d6_17 ?_
      by_cases hc18 : (255 : Int32) < c2
      · refine q_icmpNo X12 hx hby d6_20 (tlt hc18).2.2.2 ?_
        refine q_iload X12 hx hby d6_23 rfl ?_
        refine r_I X12 hx hby hret hlk d6_25 e12 ?_
        exact ⟨N12, K15, (2 : Int32), (c0.toInt8.toInt32), (c1.toInt8.toInt32), (0 : Int32), rfl, V12, (Or.inr (Or.inr (Or.inr ⟨rfl, hc18⟩)))⟩
      · refine q_icmpYes (pc := 20) X12 hx hby d6_20 (pc' := 26) (flt hc18).2.2.2 (by decide) (by decide) ?_
        refine q_aloadN X12 hx hby d6_26 rfl rfl ?_
        show own_Goes p e below (T12.setTop (mkF m 27 #[vR xc, vI 2, vR xb, vI 2, vI 3, vI 2, vI c2] [.ref xb])) _
        refine q_iloadN X12 hx hby d6_27 rfl ?_
        refine q_iload X12 hx hby d6_28 rfl ?_
        refine gg (fun t k => XS.i2b X12.here hx rfl (hb hby d6_30) rfl k) ?_
        refine q_stB X12 hx hby hZ e12 V12 2 d6_31 (fun T20 h20 X20 e20 W20 V20 => ?_)
        have O21 := O13.wr W20 (show n0 ≤ xb by omega)
        have sz22 : h20.size = h12.size := Wr.size W20
        have K23 := K15.wr W20 (Or.inl (List.mem_of_getElem? (i := 0) rfl))
        have N20 := Fr.snoc X20 N12 (show n0 ≤ xb by omega)
        have V20 : Arv Z h20 xb xq .byte (3 : Int32) [(.int (c0.toInt8.toInt32)), (.int (c1.toInt8.toInt32)), (.int ((c2.toInt8.toInt32).toInt8.toInt32))] (.int 0) := V20
        rw [show ((c2.toInt8.toInt32).toInt8.toInt32) = (c2.toInt8.toInt32) from own_i8i8 _] at V20
        refine gg (fun t k => XS.iinc X20.here hx rfl (hb hby d6_32) rfl (l' := #[vR xc, vI ((2 : Int32) + (1 : Int32)), vR xb, vI 2, vI 3, vI 2, vI c2]) rfl k) ?_
        show own_Goes p e below (T20.setTop (mkF m 35 #[vR xc, vI ((2 : Int32) + (1 : Int32)), vR xb, vI 2, vI 3, vI 2, vI c2] [])) _
        rw [show ((2 : Int32) + (1 : Int32)) = (3 : Int32) from by decide]
        refine gg (fun t k => XS.iinc X20.here hx rfl (hb hby d6_35) rfl (l' := #[vR xc, vI 3, vR xb, vI ((2 : Int32) + (1 : Int32)), vI 3, vI 2, vI c2]) rfl k) ?_
        show own_Goes p e below (T20.setTop (mkF m 38 #[vR xc, vI 3, vR xb, vI ((2 : Int32) + (1 : Int32)), vI 3, vI 2, vI c2] [])) _
        rw [show ((2 : Int32) + (1 : Int32)) = (3 : Int32) from by decide]
        refine gg (fun t k => XS.iinc X20.here hx rfl (hb hby d6_38) rfl (l' := #[vR xc, vI 3, vR xb, vI 3, vI 3, vI ((2 : Int32) + (1 : Int32)), vI c2]) rfl k) ?_
        show own_Goes p e below (T20.setTop (mkF m 41 #[vR xc, vI 3, vR xb, vI 3, vI 3, vI ((2 : Int32) + (1 : Int32)), vI c2] [])) _
        rw [show ((2 : Int32) + (1 : Int32)) = (3 : Int32) from by decide]
        refine q_goto (pc := 41) X20 hx hby d6_41 (pc' := 3) (by decide) (by decide) ?_
        refine q_iload X20 hx hby d6_3 rfl ?_
        refine q_iload X20 hx hby d6_5 rfl ?_
        refine q_icmpYes (pc := 7) X20 hx hby d6_7 (pc' := 44) (flt (show ¬ ((3 : Int32) < (3 : Int32)) from by decide)).2.1 (by decide) (by decide) ?_
        refine q_iload X20 hx hby d6_44 rfl ?_
        refine r_I X20 hx hby hret hlk d6_46 e20 ?_
        exact ⟨N20, K23, (3 : Int32), (c0.toInt8.toInt32), (c1.toInt8.toInt32), (c2.toInt8.toInt32), rfl, V20, (Or.inl ⟨rfl, rfl, rfl, rfl, hc2, hc10, hc18⟩)⟩
theorem own_ef_own_co3 (m : MethodId) (xc : Addr) : entryFrame m #[.ref xc, .int 0, .int 3] 6 = mkF m 0 #[vR xc, vI 0, vI 3, uS, uS, uS] [] := by first | (simp [entryFrame, mkF, argsToLocals, Value.category]; done) | rfl
def Q_own_co3 (Z : State) (xc : Addr) (xk : ClassId) (c0 : Int32) (c1 : Int32) (c2 : Int32) (gz : Int32) (gfm : Value) (gwC : Addr) (gwM : Addr) (h0 : Heap) (n0 : Nat) (v : Option Value) (h : Heap) (L : List Loc) : Prop := Fr n0 L ∧ Keep h0 h [] ∧ ∃ (r : Addr), v = some (.ref r) ∧ own_Cod Z h r ([c0, c1, c2] : List Int32) ∧ h0.size ≤ r
theorem own_co3 (l : Launch) (Z : State) (a0 : Array Value) (hw : ∀ d ∈ tables_1, d.before a0 Z = true) (ws : List Jvm.Cond) (xc : Addr) (xk : ClassId) (c0 : Int32) (c1 : Int32) (c2 : Int32) (h0 : Heap) (n0 : Nat) (O0 : Old Z n0 h0) (gz : Int32) (gfm : Value) (gwC : Addr) (gwM : Addr) (G : GG Z gz gfm gwC gwM) (P0 : Arv Z h0 xc xk .char (3 : Int32) [.int c0, .int c1, .int c2] (.int 0)) (P1 : own_C16 c0) (P2 : own_C16 c1) (P3 : own_C16 c2) : own_Met l Z (⟨"java/lang/StringUTF16", "compress", "([CII)[B"⟩ : MethodName) jdk_52_method_16_code 6 (some (.array .byte)) ws ({ frames := 3, cells := 2, slots := 9, locals := 40 } : Room) #[.ref xc, .int 0, .int 3] h0 (Q_own_co3 Z xc xk c0 c1 c2 gz gfm gwC gwM h0 n0) := by
  refine own_mk (plainFor_of_name own_pn_java_lang_StringUTF16) O0 ?_
  intro p e s m below meth c s₁ hx hby hml hZ hown hnm hlk hret X0 e0 N0 z0 z1
  have K0 : Keep h0 h0 [] := Keep.refl _ _
  refine own_cast (own_ef_own_co3 m xc) ?_
  show own_Goes p e below (s₁.setTop (mkF m 0 #[vR xc, vI 0, vI 3, uS, uS, uS] [])) _
  obtain ⟨G0, G1, G2, G3, G4, G5, G6, G7, G8, G9, G10, G11⟩ := id G
  have ltG8 : @LT.lt Nat _ gwC Z.heap.size := G8.lt
  have ltG10 : @LT.lt Nat _ gwM Z.heap.size := G10.lt
  have ltP0 : @LT.lt Nat _ xc h0.size := P0.lt
  refine q_iloadN X0 hx hby d5_0 rfl ?_
  obtain ⟨T1, h1, k1, X1, e1, E1, A1, st1⟩ := newP X0 hx hZ (wh hw 19 rfl) e0 (g := (mkF m 1 #[vR xc, vI 0, vI 3, uS, uS, uS] [.int 3])) rfl (hb hby d5_1) rfl (by decide) (cap := 3) (by decide) (by decide) (by decide) (by decide)
  obtain ⟨b1, g1⟩ : ∃ z, z = h0.size := ⟨_, rfl⟩
  rw [← g1] at A1 st1
  refine gg st1 ?_
  have O2 := O0.ext E1
  have sz3 : h0.size ≤ h1.size := E1.1
  have K4 := K0.ext E1
  have l1 : @LT.lt Nat _ b1 h1.size := A1.lt
  have V1 : Arv Z h1 b1 k1 .byte (3 : Int32) [.int 0, .int 0, .int 0] (.int 0) := (Arv.new A1 (by decide)).pad (pad_rep [] (.int 0) 3)
  refine q_astoreN X1 hx hby d5_3 rfl (l' := #[vR xc, vI 0, vI 3, vR b1, uS, uS]) rfl ?_
  refine q_aloadN X1 hx hby d5_4 rfl rfl ?_
  refine q_iloadN X1 hx hby d5_5 rfl ?_
  refine q_aloadN X1 hx hby d5_6 rfl rfl ?_
  refine q_iconst X1 hx hby d5_7 ?_
  refine q_iloadN X1 hx hby d5_8 rfl ?_
  have f5 := (P0.ext E1)
  refine k_S X1 hx hby hZ hown (wh hw 31 rfl) (wh hw 32 rfl) (W := 0) (own_ci3 l Z a0 hw [] xc xk b1 k1 c0 c1 c2 h1 n0 O2 f5 V1 (show @LT.lt Nat _ xc b1 by first | assumption | omega | decide) (show n0 ≤ b1 by first | assumption | omega | decide)) (wh hw 33 rfl) (wh hw 29 rfl) e1  hml (argsL := [.ref xc, .int 0, .ref b1, .int 0, .int 3]) (rest := []) own_pd_3 d5_9 (fun _ T6 L6 X6 hQ6 => ?_)
  obtain ⟨h6, e6⟩ : ∃ z, T6.heap = z := ⟨_, rfl⟩
  rw [e6] at hQ6
  obtain ⟨Nc6, Kc6, r_6, y0_6, y1_6, y2_6, rfl, c6_0, c6_1⟩ := hQ6
  have N6 := Fr.app N0 Nc6
  have O7 := O2.keep Kc6 (allS (show n0 ≤ b1 by omega) all0)
  have sz8 : h1.size ≤ h6.size := Kc6.1
  have K9 := Keep.trans K4 Kc6 (allS (Or.inr (show h0.size ≤ b1 by omega)) all0)
  have ltc6_0 : @LT.lt Nat _ b1 h6.size := c6_0.lt
  rcases c6_1 with ⟨rfl, rfl, rfl, rfl, hq10, hq11, hq12⟩ | ⟨rfl, hq10⟩ | ⟨rfl, hq11⟩ | ⟨rfl, hq12⟩
  · show own_Goes p e below (T6.setTop (mkF m 12 #[vR xc, vI 0, vI 3, vR b1, uS, uS] [.int 3])) _
    refine q_istore X6 hx hby d5_12 (l' := #[vR xc, vI 0, vI 3, vR b1, vI 3, uS]) rfl ?_
    refine q_iload X6 hx hby d5_14 rfl ?_
    refine q_iloadN X6 hx hby d5_16 rfl ?_
    refine q_icmpYes (pc := 17) X6 hx hby d5_17 (pc' := 57) (teq (show ((3 : Int32) = (3 : Int32)) from by decide)).1 (by decide) (by decide) ?_
    refine q_aloadN X6 hx hby d5_57 rfl rfl ?_
    refine r_R X6 hx hby hret hlk d5_58 e6 ?_
    exact ⟨N6, K9, b1, rfl, ⟨_, _, _, _, c6_0, Or.inl ⟨rfl, rfl, rfl, (own_alS hq10 (own_alS hq11 (own_alS hq12 own_al0)))⟩⟩, (show h0.size ≤ b1 by first | assumption | omega | decide)⟩
  · show own_Goes p e below (T6.setTop (mkF m 12 #[vR xc, vI 0, vI 3, vR b1, uS, uS] [.int 0])) _
    refine q_istore X6 hx hby d5_12 (l' := #[vR xc, vI 0, vI 3, vR b1, vI 0, uS]) rfl ?_
    refine q_iload X6 hx hby d5_14 rfl ?_
    refine q_iloadN X6 hx hby d5_16 rfl ?_
    refine q_icmpNo X6 hx hby d5_17 (feq (show ¬ ((0 : Int32) = (3 : Int32)) from by decide)).1 ?_
    refine q_aloadN X6 hx hby d5_20 rfl rfl ?_
    refine q_iloadN X6 hx hby d5_21 rfl ?_
    refine q_iloadN X6 hx hby d5_22 rfl ?_
    have f13 := (f5.keep Kc6 (ninS (nE xc b1 (by omega)) nin0))
    refine k_S X6 hx hby hZ hown (wh hw 152 rfl) (wh hw 153 rfl) (W := 0) (own_toBy3 l Z a0 hw [] xc xk c0 c1 c2 h6 n0 O7 gz gfm gwC gwM G f13) (wh hw 154 rfl) (wh hw 29 rfl) e6  hml (argsL := [.ref xc, .int 0, .int 3]) (rest := []) own_pd_4 d5_23 (fun _ T14 L14 X14 hQ14 => ?_)
    obtain ⟨h14, e14⟩ : ∃ z, T14.heap = z := ⟨_, rfl⟩
    rw [e14] at hQ14
    obtain ⟨Nc14, Kc14, r_14, rk_14, rfl, c14_0, c14_1⟩ := hQ14
    have N14 := Fr.app N6 Nc14
    have O15 := O7.keep Kc14 all0
    have sz16 : h6.size ≤ h14.size := Kc14.1
    have K17 := Keep.trans K9 Kc14 all0
    have ltc14_0 : @LT.lt Nat _ r_14 h14.size := c14_0.lt
    refine q_astore X14 hx hby d5_26 rfl (l' := #[vR xc, vI 0, vI 3, vR b1, vI 0, vR r_14]) rfl ?_
    refine q_aload X14 hx hby d5_28 rfl rfl ?_
    refine q_iload X14 hx hby d5_30 rfl ?_
    refine k_S X14 hx hby hZ hown (wh hw 168 rfl) (wh hw 169 rfl) (W := 0) (own_gc3_0 l Z a0 hw [] r_14 rk_14 (c0.toInt8.toInt32) ((c0 >>> ((8 : Int32) &&& 31)).toInt8.toInt32) (c1.toInt8.toInt32) ((c1 >>> ((8 : Int32) &&& 31)).toInt8.toInt32) (c2.toInt8.toInt32) ((c2 >>> ((8 : Int32) &&& 31)).toInt8.toInt32) h14 n0 O15 gz gfm gwC gwM G c14_0) (wh hw 170 rfl) (wh hw 29 rfl) e14  hml (argsL := [.ref r_14, .int 0]) (rest := []) own_pd_5 d5_32 (fun _ T18 L18 X18 hQ18 => ?_)
    obtain ⟨Nc18, e18, rfl⟩ := hQ18
    have N18 := Fr.app N14 Nc18
    show own_Goes p e below (T18.setTop (mkF m 35 #[vR xc, vI 0, vI 3, vR b1, vI 0, vR r_14] [(.int (((((c0.toInt8.toInt32) &&& (255 : Int32)) <<< ((0 : Int32) &&& 31)) ||| ((((c0 >>> ((8 : Int32) &&& 31)).toInt8.toInt32) &&& (255 : Int32)) <<< ((8 : Int32) &&& 31))).toUInt32.toUInt16.toUInt32.toInt32))])) _
    rw [show (((((c0.toInt8.toInt32) &&& (255 : Int32)) <<< ((0 : Int32) &&& 31)) ||| ((((c0 >>> ((8 : Int32) &&& 31)).toInt8.toInt32) &&& (255 : Int32)) <<< ((8 : Int32) &&& 31))).toUInt32.toUInt16.toUInt32.toInt32) = c0 from own_g16 P1]
    refine q_sipush X18 hx hby d5_35 ?_
    refine q_icmpYes (pc := 38) X18 hx hby d5_38 (pc' := 54) (tlt hq10).2.2.1 (by decide) (by decide) ?_
    refine q_aload X18 hx hby d5_54 rfl rfl ?_
    refine r_R X18 hx hby hret hlk d5_56 e18 ?_
    exact ⟨N18, K17, r_14, rfl, ⟨_, _, _, _, c14_0, Or.inr ⟨rfl, rfl, rfl, c0, by simp, hq10⟩⟩, (show h0.size ≤ r_14 by first | assumption | omega | decide)⟩
  · show own_Goes p e below (T6.setTop (mkF m 12 #[vR xc, vI 0, vI 3, vR b1, uS, uS] [.int 1])) _
    refine q_istore X6 hx hby d5_12 (l' := #[vR xc, vI 0, vI 3, vR b1, vI 1, uS]) rfl ?_
    refine q_iload X6 hx hby d5_14 rfl ?_
    refine q_iloadN X6 hx hby d5_16 rfl ?_
    refine q_icmpNo X6 hx hby d5_17 (feq (show ¬ ((1 : Int32) = (3 : Int32)) from by decide)).1 ?_
    refine q_aloadN X6 hx hby d5_20 rfl rfl ?_
    refine q_iloadN X6 hx hby d5_21 rfl ?_
    refine q_iloadN X6 hx hby d5_22 rfl ?_
    have f19 := (f5.keep Kc6 (ninS (nE xc b1 (by omega)) nin0))
    refine k_S X6 hx hby hZ hown (wh hw 152 rfl) (wh hw 153 rfl) (W := 0) (own_toBy3 l Z a0 hw [] xc xk c0 c1 c2 h6 n0 O7 gz gfm gwC gwM G f19) (wh hw 154 rfl) (wh hw 29 rfl) e6  hml (argsL := [.ref xc, .int 0, .int 3]) (rest := []) own_pd_4 d5_23 (fun _ T20 L20 X20 hQ20 => ?_)
    obtain ⟨h20, e20⟩ : ∃ z, T20.heap = z := ⟨_, rfl⟩
    rw [e20] at hQ20
    obtain ⟨Nc20, Kc20, r_20, rk_20, rfl, c20_0, c20_1⟩ := hQ20
    have N20 := Fr.app N6 Nc20
    have O21 := O7.keep Kc20 all0
    have sz22 : h6.size ≤ h20.size := Kc20.1
    have K23 := Keep.trans K9 Kc20 all0
    have ltc20_0 : @LT.lt Nat _ r_20 h20.size := c20_0.lt
    refine q_astore X20 hx hby d5_26 rfl (l' := #[vR xc, vI 0, vI 3, vR b1, vI 1, vR r_20]) rfl ?_
    refine q_aload X20 hx hby d5_28 rfl rfl ?_
    refine q_iload X20 hx hby d5_30 rfl ?_
    refine k_S X20 hx hby hZ hown (wh hw 168 rfl) (wh hw 169 rfl) (W := 0) (own_gc3_1 l Z a0 hw [] r_20 rk_20 (c0.toInt8.toInt32) ((c0 >>> ((8 : Int32) &&& 31)).toInt8.toInt32) (c1.toInt8.toInt32) ((c1 >>> ((8 : Int32) &&& 31)).toInt8.toInt32) (c2.toInt8.toInt32) ((c2 >>> ((8 : Int32) &&& 31)).toInt8.toInt32) h20 n0 O21 gz gfm gwC gwM G c20_0) (wh hw 170 rfl) (wh hw 29 rfl) e20  hml (argsL := [.ref r_20, .int 1]) (rest := []) own_pd_5 d5_32 (fun _ T24 L24 X24 hQ24 => ?_)
    obtain ⟨Nc24, e24, rfl⟩ := hQ24
    have N24 := Fr.app N20 Nc24
    show own_Goes p e below (T24.setTop (mkF m 35 #[vR xc, vI 0, vI 3, vR b1, vI 1, vR r_20] [(.int (((((c1.toInt8.toInt32) &&& (255 : Int32)) <<< ((0 : Int32) &&& 31)) ||| ((((c1 >>> ((8 : Int32) &&& 31)).toInt8.toInt32) &&& (255 : Int32)) <<< ((8 : Int32) &&& 31))).toUInt32.toUInt16.toUInt32.toInt32))])) _
    rw [show (((((c1.toInt8.toInt32) &&& (255 : Int32)) <<< ((0 : Int32) &&& 31)) ||| ((((c1 >>> ((8 : Int32) &&& 31)).toInt8.toInt32) &&& (255 : Int32)) <<< ((8 : Int32) &&& 31))).toUInt32.toUInt16.toUInt32.toInt32) = c1 from own_g16 P2]
    refine q_sipush X24 hx hby d5_35 ?_
    refine q_icmpYes (pc := 38) X24 hx hby d5_38 (pc' := 54) (tlt hq11).2.2.1 (by decide) (by decide) ?_
    refine q_aload X24 hx hby d5_54 rfl rfl ?_
    refine r_R X24 hx hby hret hlk d5_56 e24 ?_
    exact ⟨N24, K23, r_20, rfl, ⟨_, _, _, _, c20_0, Or.inr ⟨rfl, rfl, rfl, c1, by simp, hq11⟩⟩, (show h0.size ≤ r_20 by first | assumption | omega | decide)⟩
  · show own_Goes p e below (T6.setTop (mkF m 12 #[vR xc, vI 0, vI 3, vR b1, uS, uS] [.int 2])) _
    refine q_istore X6 hx hby d5_12 (l' := #[vR xc, vI 0, vI 3, vR b1, vI 2, uS]) rfl ?_
    refine q_iload X6 hx hby d5_14 rfl ?_
    refine q_iloadN X6 hx hby d5_16 rfl ?_
    refine q_icmpNo X6 hx hby d5_17 (feq (show ¬ ((2 : Int32) = (3 : Int32)) from by decide)).1 ?_
    refine q_aloadN X6 hx hby d5_20 rfl rfl ?_
    refine q_iloadN X6 hx hby d5_21 rfl ?_
    refine q_iloadN X6 hx hby d5_22 rfl ?_
    have f25 := (f5.keep Kc6 (ninS (nE xc b1 (by omega)) nin0))
    refine k_S X6 hx hby hZ hown (wh hw 152 rfl) (wh hw 153 rfl) (W := 0) (own_toBy3 l Z a0 hw [] xc xk c0 c1 c2 h6 n0 O7 gz gfm gwC gwM G f25) (wh hw 154 rfl) (wh hw 29 rfl) e6  hml (argsL := [.ref xc, .int 0, .int 3]) (rest := []) own_pd_4 d5_23 (fun _ T26 L26 X26 hQ26 => ?_)
    obtain ⟨h26, e26⟩ : ∃ z, T26.heap = z := ⟨_, rfl⟩
    rw [e26] at hQ26
    obtain ⟨Nc26, Kc26, r_26, rk_26, rfl, c26_0, c26_1⟩ := hQ26
    have N26 := Fr.app N6 Nc26
    have O27 := O7.keep Kc26 all0
    have sz28 : h6.size ≤ h26.size := Kc26.1
    have K29 := Keep.trans K9 Kc26 all0
    have ltc26_0 : @LT.lt Nat _ r_26 h26.size := c26_0.lt
    refine q_astore X26 hx hby d5_26 rfl (l' := #[vR xc, vI 0, vI 3, vR b1, vI 2, vR r_26]) rfl ?_
    refine q_aload X26 hx hby d5_28 rfl rfl ?_
    refine q_iload X26 hx hby d5_30 rfl ?_
    refine k_S X26 hx hby hZ hown (wh hw 168 rfl) (wh hw 169 rfl) (W := 0) (own_gc3_2 l Z a0 hw [] r_26 rk_26 (c0.toInt8.toInt32) ((c0 >>> ((8 : Int32) &&& 31)).toInt8.toInt32) (c1.toInt8.toInt32) ((c1 >>> ((8 : Int32) &&& 31)).toInt8.toInt32) (c2.toInt8.toInt32) ((c2 >>> ((8 : Int32) &&& 31)).toInt8.toInt32) h26 n0 O27 gz gfm gwC gwM G c26_0) (wh hw 170 rfl) (wh hw 29 rfl) e26  hml (argsL := [.ref r_26, .int 2]) (rest := []) own_pd_5 d5_32 (fun _ T30 L30 X30 hQ30 => ?_)
    obtain ⟨Nc30, e30, rfl⟩ := hQ30
    have N30 := Fr.app N26 Nc30
    show own_Goes p e below (T30.setTop (mkF m 35 #[vR xc, vI 0, vI 3, vR b1, vI 2, vR r_26] [(.int (((((c2.toInt8.toInt32) &&& (255 : Int32)) <<< ((0 : Int32) &&& 31)) ||| ((((c2 >>> ((8 : Int32) &&& 31)).toInt8.toInt32) &&& (255 : Int32)) <<< ((8 : Int32) &&& 31))).toUInt32.toUInt16.toUInt32.toInt32))])) _
    rw [show (((((c2.toInt8.toInt32) &&& (255 : Int32)) <<< ((0 : Int32) &&& 31)) ||| ((((c2 >>> ((8 : Int32) &&& 31)).toInt8.toInt32) &&& (255 : Int32)) <<< ((8 : Int32) &&& 31))).toUInt32.toUInt16.toUInt32.toInt32) = c2 from own_g16 P3]
    refine q_sipush X30 hx hby d5_35 ?_
    refine q_icmpYes (pc := 38) X30 hx hby d5_38 (pc' := 54) (tlt hq12).2.2.1 (by decide) (by decide) ?_
    refine q_aload X30 hx hby d5_54 rfl rfl ?_
    refine r_R X30 hx hby hret hlk d5_56 e30 ?_
    exact ⟨N30, K29, r_26, rfl, ⟨_, _, _, _, c26_0, Or.inr ⟨rfl, rfl, rfl, c2, by simp, hq12⟩⟩, (show h0.size ≤ r_26 by first | assumption | omega | decide)⟩
theorem own_ef_own_cfa3a (m : MethodId) (xb : Addr) : entryFrame m #[.ref xb, .int 3] 2 = mkF m 0 #[vR xb, vI 3] [] := by first | (simp [entryFrame, mkF, argsToLocals, Value.category]; done) | rfl
def Q_own_cfa3a (Z : State) (xb : Addr) (xq : ClassId) (y0 : Int32) (y1 : Int32) (y2 : Int32) (h0 : Heap) (n0 : Nat) (v : Option Value) (h : Heap) (L : List Loc) : Prop := Fr n0 L ∧ h = h0 ∧ v = some (.int 0)
theorem own_cfa3a (l : Launch) (Z : State) (a0 : Array Value) (hw : ∀ d ∈ tables_1, d.before a0 Z = true) (ws : List Jvm.Cond) (xb : Addr) (xq : ClassId) (y0 : Int32) (y1 : Int32) (y2 : Int32) (h0 : Heap) (n0 : Nat) (O0 : Old Z n0 h0) (P0 : Arv Z h0 xb xq .byte (3 : Int32) [.int y0, .int y1, .int y2] (.int 0)) : own_Met l Z (⟨"java/lang/StringUTF16", "coderFromArrayLen", "([BI)B"⟩ : MethodName) jdk_52_method_15_code 2 (some .byte) ws ({ frames := 0, cells := 0, slots := 0, locals := 0 } : Room) #[.ref xb, .int 3] h0 (Q_own_cfa3a Z xb xq y0 y1 y2 h0 n0) := by
  refine own_mk (plainFor_of_name own_pn_java_lang_StringUTF16) O0 ?_
  intro p e s m below meth c s₁ hx hby hml hZ hown hnm hlk hret X0 e0 N0 z0 z1
  refine own_cast (own_ef_own_cfa3a m xb) ?_
  show own_Goes p e below (s₁.setTop (mkF m 0 #[vR xb, vI 3] [])) _
  have ltP0 : @LT.lt Nat _ xb h0.size := P0.lt
  refine q_iloadN X0 hx hby d7_0 rfl ?_
  refine q_aloadN X0 hx hby d7_1 rfl rfl ?_
  refine q_len X0 hx hby hZ e0 P0 d7_2 ?_
  refine q_isub X0 hx hby d7_3 ?_
  show own_Goes p e below (s₁.setTop (mkF m 4 #[vR xb, vI 3] [(.int ((3 : Int32) - (3 : Int32)))])) _
  rw [show ((3 : Int32) - (3 : Int32)) = (0 : Int32) from by decide]
  refine q_bipush X0 hx hby d7_4 ?_
  refine gg (fun t k => XS.iushr X0.here hx rfl (hb hby d7_6) rfl k) ?_
  show own_Goes p e below (s₁.setTop (mkF m 7 #[vR xb, vI 3] [(.int (((0 : Int32).toUInt32 >>> ((31 : Int32) &&& 31).toUInt32).toInt32))])) _
  rw [show (((0 : Int32).toUInt32 >>> ((31 : Int32) &&& 31).toUInt32).toInt32) = (0 : Int32) from by decide]
  refine gg (fun t k => XS.i2b X0.here hx rfl (hb hby d7_7) rfl k) ?_
  show own_Goes p e below (s₁.setTop (mkF m 8 #[vR xb, vI 3] [(.int ((0 : Int32).toInt8.toInt32))])) _
  rw [show ((0 : Int32).toInt8.toInt32) = (0 : Int32) from by decide]
  refine r_B X0 hx hby hret hlk d7_8 e0 ?_
  exact ⟨N0, rfl, rfl⟩
theorem own_ef_own_cfa3b (m : MethodId) (xb : Addr) : entryFrame m #[.ref xb, .int 3] 2 = mkF m 0 #[vR xb, vI 3] [] := by first | (simp [entryFrame, mkF, argsToLocals, Value.category]; done) | rfl
def Q_own_cfa3b (Z : State) (xb : Addr) (xq : ClassId) (y0 : Int32) (y1 : Int32) (y2 : Int32) (y3 : Int32) (y4 : Int32) (y5 : Int32) (h0 : Heap) (n0 : Nat) (v : Option Value) (h : Heap) (L : List Loc) : Prop := Fr n0 L ∧ h = h0 ∧ v = some (.int 1)
theorem own_cfa3b (l : Launch) (Z : State) (a0 : Array Value) (hw : ∀ d ∈ tables_1, d.before a0 Z = true) (ws : List Jvm.Cond) (xb : Addr) (xq : ClassId) (y0 : Int32) (y1 : Int32) (y2 : Int32) (y3 : Int32) (y4 : Int32) (y5 : Int32) (h0 : Heap) (n0 : Nat) (O0 : Old Z n0 h0) (P0 : Arv Z h0 xb xq .byte (6 : Int32) [.int y0, .int y1, .int y2, .int y3, .int y4, .int y5] (.int 0)) : own_Met l Z (⟨"java/lang/StringUTF16", "coderFromArrayLen", "([BI)B"⟩ : MethodName) jdk_52_method_15_code 2 (some .byte) ws ({ frames := 0, cells := 0, slots := 0, locals := 0 } : Room) #[.ref xb, .int 3] h0 (Q_own_cfa3b Z xb xq y0 y1 y2 y3 y4 y5 h0 n0) := by
  refine own_mk (plainFor_of_name own_pn_java_lang_StringUTF16) O0 ?_
  intro p e s m below meth c s₁ hx hby hml hZ hown hnm hlk hret X0 e0 N0 z0 z1
  refine own_cast (own_ef_own_cfa3b m xb) ?_
  show own_Goes p e below (s₁.setTop (mkF m 0 #[vR xb, vI 3] [])) _
  have ltP0 : @LT.lt Nat _ xb h0.size := P0.lt
  refine q_iloadN X0 hx hby d7_0 rfl ?_
  refine q_aloadN X0 hx hby d7_1 rfl rfl ?_
  refine q_len X0 hx hby hZ e0 P0 d7_2 ?_
  refine q_isub X0 hx hby d7_3 ?_
  show own_Goes p e below (s₁.setTop (mkF m 4 #[vR xb, vI 3] [(.int ((3 : Int32) - (6 : Int32)))])) _
  rw [show ((3 : Int32) - (6 : Int32)) = (-3 : Int32) from by decide]
  refine q_bipush X0 hx hby d7_4 ?_
  refine gg (fun t k => XS.iushr X0.here hx rfl (hb hby d7_6) rfl k) ?_
  show own_Goes p e below (s₁.setTop (mkF m 7 #[vR xb, vI 3] [(.int (((-3 : Int32).toUInt32 >>> ((31 : Int32) &&& 31).toUInt32).toInt32))])) _
  rw [show (((-3 : Int32).toUInt32 >>> ((31 : Int32) &&& 31).toUInt32).toInt32) = (1 : Int32) from by decide]
  refine gg (fun t k => XS.i2b X0.here hx rfl (hb hby d7_7) rfl k) ?_
  show own_Goes p e below (s₁.setTop (mkF m 8 #[vR xb, vI 3] [(.int ((1 : Int32).toInt8.toInt32))])) _
  rw [show ((1 : Int32).toInt8.toInt32) = (1 : Int32) from by decide]
  refine r_B X0 hx hby hret hlk d7_8 e0 ?_
  exact ⟨N0, rfl, rfl⟩
theorem own_ef_own_si3 (m : MethodId) (xa : Addr) (xc : Addr) : entryFrame m #[.ref xa, .ref xc, .int 0, .int 3, .null] 6 = mkF m 0 #[vR xa, vR xc, vI 0, vI 3, vN, uS] [] := by first | (simp [entryFrame, mkF, argsToLocals, Value.category]; done) | rfl
def Q_own_si3 (Z : State) (xa : Addr) (xc : Addr) (xk : ClassId) (c0 : Int32) (c1 : Int32) (c2 : Int32) (gz : Int32) (gfm : Value) (gwC : Addr) (gwM : Addr) (h0 : Heap) (n0 : Nat) (v : Option Value) (h : Heap) (L : List Loc) : Prop := Fr n0 L ∧ Keep h0 h [xa] ∧ ∃ (rb : Addr), v = none ∧ own_Str Z h xa rb ([c0, c1, c2] : List Int32)
theorem own_si3 (l : Launch) (Z : State) (a0 : Array Value) (hw : ∀ d ∈ tables_1, d.before a0 Z = true) (ws : List Jvm.Cond) (xa : Addr) (xc : Addr) (xk : ClassId) (c0 : Int32) (c1 : Int32) (c2 : Int32) (h0 : Heap) (n0 : Nat) (O0 : Old Z n0 h0) (gz : Int32) (gfm : Value) (gwC : Addr) (gwM : Addr) (G : GG Z gz gfm gwC gwM) (P0 : Exa Z h0 xa "java/lang/String") (P1 : Fld Z h0 xa "java/lang/String" "value" "[B" .null) (P2 : Fld Z h0 xa "java/lang/String" "coder" "B" (.int 0)) (P3 : n0 ≤ xa) (P4 : Arv Z h0 xc xk .char (3 : Int32) [.int c0, .int c1, .int c2] (.int 0)) (P5 : (@LT.lt Nat _ xc xa ∨ @LT.lt Nat _ xa xc)) (P6 : own_C16 c0) (P7 : own_C16 c1) (P8 : own_C16 c2) : own_Met l Z (⟨"java/lang/String", "<init>", "([CIILjava/lang/Void;)V"⟩ : MethodName) jdk_42_method_149_code 6 none ws ({ frames := 4, cells := 2, slots := 9, locals := 57 } : Room) #[.ref xa, .ref xc, .int 0, .int 3, .null] h0 (Q_own_si3 Z xa xc xk c0 c1 c2 gz gfm gwC gwM h0 n0) := by
  refine own_mk (plainFor_of_name own_pn_java_lang_String) O0 ?_
  intro p e s m below meth c s₁ hx hby hml hZ hown hnm hlk hret X0 e0 N0 z0 z1
  have K0 : Keep h0 h0 [xa] := Keep.refl _ _
  refine own_cast (own_ef_own_si3 m xa xc) ?_
  show own_Goes p e below (s₁.setTop (mkF m 0 #[vR xa, vR xc, vI 0, vI 3, vN, uS] [])) _
  obtain ⟨G0, G1, G2, G3, G4, G5, G6, G7, G8, G9, G10, G11⟩ := id G
  have ltG8 : @LT.lt Nat _ gwC Z.heap.size := G8.lt
  have ltG10 : @LT.lt Nat _ gwM Z.heap.size := G10.lt
  have ltP0 : @LT.lt Nat _ xa h0.size := P0.lt
  have ltP4 : @LT.lt Nat _ xc h0.size := P4.lt
  refine q_aloadN X0 hx hby d3_0 rfl rfl ?_
  obtain ⟨T1, X1, e1, st1⟩ := initO X0 hx hZ hown (wh hw 15 rfl) (wh hw 16 rfl) (wh hw 17 rfl) e0 (g := (mkF m 1 #[vR xa, vR xc, vI 0, vI 3, vN, uS] [.ref xa])) rfl (by rw [hml]; rfl) rfl (hb hby d3_1) (by decide) (W := 0) (by show 2 * 0 + _ ≤ _; exact Nat.le_of_eq rfl) (by decide)
  refine gg st1 ?_
  refine q_iloadN X1 hx hby d3_4 rfl ?_
  refine q_ifYes (pc := 5) X1 hx hby d3_5 (pc' := 27) ((if0 _ _).trans (feq (show ¬ ((3 : Int32) = (0 : Int32)) from by decide)).2) (by decide) (by decide) ?_
  have q2 := G0.ext O0.2
  refine qS X1 hx hby hZ hown (host := "") (Or.inl (wh hw 26 rfl)) Via.refl e1 q2 d3_27 (fun T3 X3 e3 => ?_)
  refine q_ifNo X3 hx hby d3_30 ((if0 _ _).trans (feq (show ¬ (gz = (0 : Int32)) from G1)).1) ?_
  refine q_aloadN X3 hx hby d3_33 rfl rfl ?_
  refine q_iloadN X3 hx hby d3_34 rfl ?_
  refine q_iloadN X3 hx hby d3_35 rfl ?_
  refine k_S X3 hx hby hZ hown (wh hw 27 rfl) (wh hw 28 rfl) (W := 0) (own_co3 l Z a0 hw [] xc xk c0 c1 c2 h0 n0 O0 gz gfm gwC gwM G P4 (show own_C16 c0 from P6) (show own_C16 c1 from P7) (show own_C16 c2 from P8)) (wh hw 30 rfl) (wh hw 29 rfl) e3  hml (argsL := [.ref xc, .int 0, .int 3]) (rest := []) own_pd_4 d3_36 (fun _ T4 L4 X4 hQ4 => ?_)
  obtain ⟨h4, e4⟩ : ∃ z, T4.heap = z := ⟨_, rfl⟩
  rw [e4] at hQ4
  obtain ⟨Nc4, Kc4, r_4, rfl, c4_0, c4_1⟩ := hQ4
  have N4 := Fr.app N0 Nc4
  have O5 := O0.keep Kc4 all0
  have sz6 : h0.size ≤ h4.size := Kc4.1
  have K7 := Keep.trans K0 Kc4 all0
  obtain ⟨kbs8, cds8, Ns8, vss8, As8, hCs8⟩ := id c4_0
  rcases hCs8 with ⟨rfl, rfl, rfl, hLs8⟩ | ⟨rfl, rfl, rfl, hWs8⟩
  · have Bs8 : Arv Z h4 r_4 kbs8 .byte (3 : Int32) [(.int (c0.toInt8.toInt32)), (.int (c1.toInt8.toInt32)), (.int (c2.toInt8.toInt32))] (.int 0) := As8
    show own_Goes p e below (T4.setTop (mkF m 39 #[vR xa, vR xc, vI 0, vI 3, vN, uS] [.ref r_4])) _
    refine q_astore X4 hx hby d3_39 rfl (l' := #[vR xa, vR xc, vI 0, vI 3, vN, vR r_4]) rfl ?_
    refine q_aloadN X4 hx hby d3_41 rfl rfl ?_
    refine q_aload X4 hx hby d3_42 rfl rfl ?_
    refine q_iloadN X4 hx hby d3_44 rfl ?_
    refine k_S X4 hx hby hZ hown (wh hw 34 rfl) (wh hw 35 rfl) (W := 1) (own_cfa3a l Z a0 hw [] r_4 kbs8 (c0.toInt8.toInt32) (c1.toInt8.toInt32) (c2.toInt8.toInt32) h4 n0 O5 Bs8) (wh hw 36 rfl) (wh hw 29 rfl) e4  hml (argsL := [.ref r_4, .int 3]) (rest := [.ref xa]) own_pd_6 d3_45 (fun _ T9 L9 X9 hQ9 => ?_)
    obtain ⟨Nc9, e9, rfl⟩ := hQ9
    have N9 := Fr.app N4 Nc9
    have f10 := (P2.keep Kc4 nin0)
    have f11 := (P0.keep Kc4)
    obtain ⟨T12, h12, X12, e12, W12, st12⟩ := putFN X9 hx hZ hown (wh hw 25 rfl) Via.refl e9 f10 f11 (Or.inr ⟨(wh hw 21 rfl), rfl, hnm⟩) (wh hw 5 rfl) (ty := .byte) (v' := (.int 0)) (by decide) rfl rfl (g := (mkF m 48 #[vR xa, vR xc, vI 0, vI 3, vN, vR r_4] [.int 0, .ref xa])) rfl rfl (hb hby d3_48)
    refine gg st12 ?_
    have O13 := O5.wr W12 (show n0 ≤ xa by omega)
    have sz14 : h12.size = h4.size := Wr.size W12
    have K15 := K7.wr W12 (Or.inl (List.mem_of_getElem? (i := 0) rfl))
    have N12 := Fr.snoc X12 N9 (show n0 ≤ xa by omega)
    have Fw12 := f10.same W12
    refine q_aloadN X12 hx hby d3_51 rfl rfl ?_
    refine q_aload X12 hx hby d3_52 rfl rfl ?_
    have f16 := ((P1.keep Kc4 nin0).other W12 (Or.inr (slot_ne (Or.inr (wh hw 20 rfl)) (Or.inr (wh hw 21 rfl)) (by decide) (t := (.array .byte)) (t' := .byte) (by decide) (by decide))))
    have f17 := (f11.wr W12)
    refine qP X12 hx hby hZ hown (host := "") (Or.inl (wh hw 24 rfl)) Via.refl e12 f16 f17 (Or.inr ⟨(wh hw 20 rfl), rfl, hnm⟩) (wh hw 5 rfl) (ty := (.array .byte)) d3_54 (fun T18 h18 X18 e18 W18 => ?_)
    have O19 := O13.wr W18 (show n0 ≤ xa by omega)
    have sz20 : h18.size = h12.size := Wr.size W18
    have K21 := K15.wr W18 (Or.inl (List.mem_of_getElem? (i := 0) rfl))
    have N18 := Fr.snoc X18 N12 (show n0 ≤ xa by omega)
    have Fw18 := f16.same W18
    refine r_V X18 hx hby hret hlk d3_57 e18 ?_
    have f22 := (f17.wr W18)
    have f23 := (Fw12.other W18 (Or.inr (slot_ne (Or.inr (wh hw 21 rfl)) (Or.inr (wh hw 20 rfl)) (by decide) (t := .byte) (t' := (.array .byte)) (by decide) (by decide))))
    have f24 := ((Bs8.other W12 (nE r_4 xa (by omega))).other W18 (nE r_4 xa (by omega)))
    exact ⟨N18, K21, r_4, rfl, ⟨f22, Fw18, _, _, _, _, f23, f24, Or.inl ⟨rfl, rfl, rfl, hLs8⟩, (own_alS P6 (own_alS P7 (own_alS P8 own_al0))), Nat.le_of_ble_eq_true rfl⟩⟩
  · have Bs8 : Arv Z h4 r_4 kbs8 .byte (6 : Int32) [(.int (c0.toInt8.toInt32)), (.int ((c0 >>> ((8 : Int32) &&& 31)).toInt8.toInt32)), (.int (c1.toInt8.toInt32)), (.int ((c1 >>> ((8 : Int32) &&& 31)).toInt8.toInt32)), (.int (c2.toInt8.toInt32)), (.int ((c2 >>> ((8 : Int32) &&& 31)).toInt8.toInt32))] (.int 0) := As8
    show own_Goes p e below (T4.setTop (mkF m 39 #[vR xa, vR xc, vI 0, vI 3, vN, uS] [.ref r_4])) _
    refine q_astore X4 hx hby d3_39 rfl (l' := #[vR xa, vR xc, vI 0, vI 3, vN, vR r_4]) rfl ?_
    refine q_aloadN X4 hx hby d3_41 rfl rfl ?_
    refine q_aload X4 hx hby d3_42 rfl rfl ?_
    refine q_iloadN X4 hx hby d3_44 rfl ?_
    refine k_S X4 hx hby hZ hown (wh hw 34 rfl) (wh hw 35 rfl) (W := 1) (own_cfa3b l Z a0 hw [] r_4 kbs8 (c0.toInt8.toInt32) ((c0 >>> ((8 : Int32) &&& 31)).toInt8.toInt32) (c1.toInt8.toInt32) ((c1 >>> ((8 : Int32) &&& 31)).toInt8.toInt32) (c2.toInt8.toInt32) ((c2 >>> ((8 : Int32) &&& 31)).toInt8.toInt32) h4 n0 O5 Bs8) (wh hw 36 rfl) (wh hw 29 rfl) e4  hml (argsL := [.ref r_4, .int 3]) (rest := [.ref xa]) own_pd_6 d3_45 (fun _ T25 L25 X25 hQ25 => ?_)
    obtain ⟨Nc25, e25, rfl⟩ := hQ25
    have N25 := Fr.app N4 Nc25
    have f26 := (P2.keep Kc4 nin0)
    have f27 := (P0.keep Kc4)
    obtain ⟨T28, h28, X28, e28, W28, st28⟩ := putFN X25 hx hZ hown (wh hw 25 rfl) Via.refl e25 f26 f27 (Or.inr ⟨(wh hw 21 rfl), rfl, hnm⟩) (wh hw 5 rfl) (ty := .byte) (v' := (.int 1)) (by decide) rfl rfl (g := (mkF m 48 #[vR xa, vR xc, vI 0, vI 3, vN, vR r_4] [.int 1, .ref xa])) rfl rfl (hb hby d3_48)
    refine gg st28 ?_
    have O29 := O5.wr W28 (show n0 ≤ xa by omega)
    have sz30 : h28.size = h4.size := Wr.size W28
    have K31 := K7.wr W28 (Or.inl (List.mem_of_getElem? (i := 0) rfl))
    have N28 := Fr.snoc X28 N25 (show n0 ≤ xa by omega)
    have Fw28 := f26.same W28
    refine q_aloadN X28 hx hby d3_51 rfl rfl ?_
    refine q_aload X28 hx hby d3_52 rfl rfl ?_
    have f32 := ((P1.keep Kc4 nin0).other W28 (Or.inr (slot_ne (Or.inr (wh hw 20 rfl)) (Or.inr (wh hw 21 rfl)) (by decide) (t := (.array .byte)) (t' := .byte) (by decide) (by decide))))
    have f33 := (f27.wr W28)
    refine qP X28 hx hby hZ hown (host := "") (Or.inl (wh hw 24 rfl)) Via.refl e28 f32 f33 (Or.inr ⟨(wh hw 20 rfl), rfl, hnm⟩) (wh hw 5 rfl) (ty := (.array .byte)) d3_54 (fun T34 h34 X34 e34 W34 => ?_)
    have O35 := O29.wr W34 (show n0 ≤ xa by omega)
    have sz36 : h34.size = h28.size := Wr.size W34
    have K37 := K31.wr W34 (Or.inl (List.mem_of_getElem? (i := 0) rfl))
    have N34 := Fr.snoc X34 N28 (show n0 ≤ xa by omega)
    have Fw34 := f32.same W34
    refine r_V X34 hx hby hret hlk d3_57 e34 ?_
    have f38 := (f33.wr W34)
    have f39 := (Fw28.other W34 (Or.inr (slot_ne (Or.inr (wh hw 21 rfl)) (Or.inr (wh hw 20 rfl)) (by decide) (t := .byte) (t' := (.array .byte)) (by decide) (by decide))))
    have f40 := ((Bs8.other W28 (nE r_4 xa (by omega))).other W34 (nE r_4 xa (by omega)))
    exact ⟨N34, K37, r_4, rfl, ⟨f38, Fw34, _, _, _, _, f39, f40, Or.inr ⟨rfl, rfl, rfl, hWs8⟩, (own_alS P6 (own_alS P7 (own_alS P8 own_al0))), Nat.le_of_ble_eq_true rfl⟩⟩
theorem own_ef_own_sc3 (m : MethodId) (xa : Addr) (xc : Addr) : entryFrame m #[.ref xa, .ref xc] 2 = mkF m 0 #[vR xa, vR xc] [] := by first | (simp [entryFrame, mkF, argsToLocals, Value.category]; done) | rfl
def Q_own_sc3 (Z : State) (xa : Addr) (xc : Addr) (xk : ClassId) (c0 : Int32) (c1 : Int32) (c2 : Int32) (gz : Int32) (gfm : Value) (gwC : Addr) (gwM : Addr) (h0 : Heap) (n0 : Nat) (v : Option Value) (h : Heap) (L : List Loc) : Prop := Fr n0 L ∧ Keep h0 h [xa] ∧ ∃ (rb : Addr), v = none ∧ own_Str Z h xa rb ([c0, c1, c2] : List Int32)
theorem own_sc3 (l : Launch) (Z : State) (a0 : Array Value) (hw : ∀ d ∈ tables_1, d.before a0 Z = true) (ws : List Jvm.Cond) (xa : Addr) (xc : Addr) (xk : ClassId) (c0 : Int32) (c1 : Int32) (c2 : Int32) (h0 : Heap) (n0 : Nat) (O0 : Old Z n0 h0) (gz : Int32) (gfm : Value) (gwC : Addr) (gwM : Addr) (G : GG Z gz gfm gwC gwM) (P0 : Exa Z h0 xa "java/lang/String") (P1 : Fld Z h0 xa "java/lang/String" "value" "[B" .null) (P2 : Fld Z h0 xa "java/lang/String" "coder" "B" (.int 0)) (P3 : n0 ≤ xa) (P4 : Arv Z h0 xc xk .char (3 : Int32) [.int c0, .int c1, .int c2] (.int 0)) (P5 : (@LT.lt Nat _ xc xa ∨ @LT.lt Nat _ xa xc)) (P6 : own_C16 c0) (P7 : own_C16 c1) (P8 : own_C16 c2) : own_Met l Z (⟨"java/lang/String", "<init>", "([C)V"⟩ : MethodName) jdk_42_method_3_code 2 none ws ({ frames := 5, cells := 2, slots := 9, locals := 74 } : Room) #[.ref xa, .ref xc] h0 (Q_own_sc3 Z xa xc xk c0 c1 c2 gz gfm gwC gwM h0 n0) := by
  refine own_mk (plainFor_of_name own_pn_java_lang_String) O0 ?_
  intro p e s m below meth c s₁ hx hby hml hZ hown hnm hlk hret X0 e0 N0 z0 z1
  have K0 : Keep h0 h0 [xa] := Keep.refl _ _
  refine own_cast (own_ef_own_sc3 m xa xc) ?_
  show own_Goes p e below (s₁.setTop (mkF m 0 #[vR xa, vR xc] [])) _
  obtain ⟨G0, G1, G2, G3, G4, G5, G6, G7, G8, G9, G10, G11⟩ := id G
  have ltG8 : @LT.lt Nat _ gwC Z.heap.size := G8.lt
  have ltG10 : @LT.lt Nat _ gwM Z.heap.size := G10.lt
  have ltP0 : @LT.lt Nat _ xa h0.size := P0.lt
  have ltP4 : @LT.lt Nat _ xc h0.size := P4.lt
  refine q_aloadN X0 hx hby d2_0 rfl rfl ?_
  refine q_aloadN X0 hx hby d2_1 rfl rfl ?_
  refine q_iconst X0 hx hby d2_2 ?_
  refine q_aloadN X0 hx hby d2_3 rfl rfl ?_
  refine q_len X0 hx hby hZ e0 P4 d2_4 ?_
  refine q_aconstNull X0 hx hby d2_5 ?_
  refine k_N X0 hx hby hZ hown (wh hw 11 rfl) (wh hw 12 rfl) (W := 0) (own_si3 l Z a0 hw [] xa xc xk c0 c1 c2 h0 n0 O0 gz gfm gwC gwM G P0 P1 P2 (show n0 ≤ xa by first | assumption | omega | decide) P4 (show (@LT.lt Nat _ xc xa ∨ @LT.lt Nat _ xa xc) by first | assumption | omega | decide) (show own_C16 c0 from P6) (show own_C16 c1 from P7) (show own_C16 c2 from P8)) (wh hw 14 rfl) (wh hw 6 rfl) e0  hml (argsL := [.ref xc, .int 0, .int 3, .null]) (rest := []) own_pd_7 d2_6 (fun _ T2 L2 X2 hQ2 => ?_)
  obtain ⟨h2, e2⟩ : ∃ z, T2.heap = z := ⟨_, rfl⟩
  rw [e2] at hQ2
  obtain ⟨Nc2, Kc2, rb_2, rfl, c2_0⟩ := hQ2
  have N2 := Fr.app N0 Nc2
  have O3 := O0.keep Kc2 (allS (show n0 ≤ xa by omega) all0)
  have sz4 : h0.size ≤ h2.size := Kc2.1
  have K5 := Keep.trans K0 Kc2 (allS (Or.inl (List.mem_of_getElem? (i := 0) rfl)) all0)
  have ltc2_0 : @LT.lt Nat _ xa h2.size := c2_0.1.lt
  have luc2_0 : @LT.lt Nat _ rb_2 h2.size := c2_0.lt2
  refine r_V X2 hx hby hret hlk d2_9 e2 ?_
  exact ⟨N2, K5, rb_2, rfl, c2_0⟩
theorem d3_8 : decode B3 8 = .ok (.aload_n 0, 1) := by decide +kernel
theorem d3_9 : decode B3 9 = .ok (.ldc 7, 2) := by decide +kernel
theorem d3_11 : decode B3 11 = .ok (.getfield 9, 3) := by decide +kernel
theorem d3_14 : decode B3 14 = .ok (.putfield 9, 3) := by decide +kernel
theorem d3_17 : decode B3 17 = .ok (.aload_n 0, 1) := by decide +kernel
theorem d3_18 : decode B3 18 = .ok (.ldc 7, 2) := by decide +kernel
theorem d3_20 : decode B3 20 = .ok (.getfield 15, 3) := by decide +kernel
theorem d3_23 : decode B3 23 = .ok (.putfield 15, 3) := by decide +kernel
theorem d3_26 : decode B3 26 = .ok (.return_, 1) := by decide +kernel
theorem own_ef_own_si0 (m : MethodId) (xa : Addr) (xc : Addr) : entryFrame m #[.ref xa, .ref xc, .int 0, .int 0, .null] 6 = mkF m 0 #[vR xa, vR xc, vI 0, vI 0, vN, uS] [] := by first | (simp [entryFrame, mkF, argsToLocals, Value.category]; done) | rfl
def Q_own_si0 (Z : State) (xa : Addr) (xc : Addr) (h0 : Heap) (n0 : Nat) (v : Option Value) (h : Heap) (L : List Loc) : Prop := Fr n0 L ∧ Keep h0 h [xa] ∧ ∃ (rb : Addr), v = none ∧ own_Str Z h xa rb ([] : List Int32)
theorem own_si0 (l : Launch) (Z : State) (a0 : Array Value) (hw : ∀ d ∈ tables_1, d.before a0 Z = true) (ws : List Jvm.Cond) (xa : Addr) (xc : Addr) (h0 : Heap) (n0 : Nat) (O0 : Old Z n0 h0) (P0 : Exa Z h0 xa "java/lang/String") (P1 : Fld Z h0 xa "java/lang/String" "value" "[B" .null) (P2 : Fld Z h0 xa "java/lang/String" "coder" "B" (.int 0)) (P3 : n0 ≤ xa) :
    MetFree l (⟨"java/lang/String", "<init>", "([CIILjava/lang/Void;)V"⟩ : MethodName) (head1 (Jvm.Cond.code (⟨"java/lang/String", "<init>", "([CIILjava/lang/Void;)V"⟩ : MethodName) jdk_42_method_149_code 6 none :: ws) ({ frames := 1, cells := 4, slots := 8, locals := 12 } : Room)) (fun as_ U_ => as_ = #[.ref xa, .ref xc, .int 0, .int 0, .null] ∧ Z.Warmed39 U_.vm ∧ U_.heap = h0 ∧ CHv Z consts_1 U_.vm h0) (fun _ _ _ _ _ => True) (fun _ U_ o_ U2_ => ∃ v_ L_, o_ = .returned v_ ∧ Q_own_si0 Z xa xc h0 n0 v_ U2_.heap L_ ∧ CHr Z consts_1 U_.vm U_.heap U2_.vm U2_.heap ∧ ReturnedEndW U_ o_ U2_ L_ ({ frames := 1, cells := 4, slots := 8, locals := 12 } : Room).cells ({ frames := 1, cells := 4, slots := 8, locals := 12 } : Room).slots) := by
  refine MetFree.of_bodySF (plainFor_of_name own_pn_java_lang_String) hisR ?_
  intro p e s m args below meth c s₁ Bd hml0 hP hK
  obtain ⟨rfl, hZ, hh, hC0⟩ := hP
  have hx := Bd.exec
  have hby := Bd.bytes
  have hml : c.maxLocals = 6 := hml0
  have hown : s.vm.findClass "java/lang/String" = some m.cls := findClass_of_methodNamed Bd.named
  have hnm := (name_of_methodNamed Bd.named Bd.method).1
  have hlk : meth.locks = false := Bd.notSynchronized
  have hret := Bd.returns
  have X0 : Stand p l e ({ frames := 1, cells := 4, slots := 8, locals := 12 } : Room) s m #[.ref xa, .ref xc, .int 0, .int 0, .null] below meth c s₁ [] 0 0 := Stand.of_body Bd
  have e0 : s₁.heap = h0 := by rw [← hh, Bd.state]; rfl
  have N0 := Fr.nil n0
  have z0 : Z.heap.size = n0 := O0.1
  have z1 : n0 ≤ h0.size := z0 ▸ O0.2.1
  have K0 : Keep h0 h0 [xa] := Keep.refl _ _
  have hS0 : s.Since s.vm 0 := (State.WarmedH.refl s).since 0
  have hk0 : 0 ≤ h0.size := Nat.zero_le _
  replace X0 : Stand p l e ({ frames := 1, cells := 4, slots := 8, locals := 12 } : Room) (s.setVm s.vm) m #[.ref xa, .ref xc, .int 0, .int 0, .null] below meth c s₁ [] 0 0 := X0
  have CR0 := CHr.refl hC0
  show own_Goes p e below (s₁.setTop (entryFrame m #[.ref xa, .ref xc, .int 0, .int 0, .null] 6)) (own_PostH Z consts_1 s (Q_own_si0 Z xa xc h0 n0) ({ frames := 1, cells := 4, slots := 8, locals := 12 } : Room).cells ({ frames := 1, cells := 4, slots := 8, locals := 12 } : Room).slots)
  refine own_cast (own_ef_own_si0 m xa xc) ?_
  show own_Goes p e below (s₁.setTop (mkF m 0 #[vR xa, vR xc, vI 0, vI 0, vN, uS] [])) _
  have ltP0 : @LT.lt Nat _ xa h0.size := P0.lt
  refine q_aloadN X0 hx hby d3_0 rfl rfl ?_
  obtain ⟨T1, X1, e1, st1⟩ := initO X0 hx hZ hown (wh hw 15 rfl) (wh hw 16 rfl) (wh hw 17 rfl) e0 (g := (mkF m 1 #[vR xa, vR xc, vI 0, vI 0, vN, uS] [.ref xa])) rfl (by rw [hml]; rfl) rfl (hb hby d3_1) (by decide) (W := 0) (by show 2 * 0 + _ ≤ _; exact Nat.le_of_eq rfl) (by decide)
  refine gg st1 ?_
  refine q_iloadN X1 hx hby d3_4 rfl ?_
  refine q_ifNo X1 hx hby d3_5 ((if0 _ _).trans (teq (show ((0 : Int32) = (0 : Int32)) from by decide)).2) ?_
  refine q_aloadN X1 hx hby d3_8 rfl rfl ?_
  have SF3 : Safe Z consts_1 _ h0 xa := own_safeNull hZ.alike P0 P1
  obtain ⟨a2, T2, h2, k2, bb2, kb2, X2, e2, E2, hS2, hk2, hZ2, hown2, Es2, Cs2, Vs2, As2, la2, lb2, cs2, -, ns2, st2⟩ := ldcCH (s := s) (vm0 := s.vm) X1 hx hZ hown (wh hw 18 rfl) (own_strs hw) e1 hS0 hk0 (own_EW hw) (List.mem_of_getElem? (i := 5) rfl) CR0.1 (vs := []) (z := (0 : Int32)) ⟨by decide, by first | rfl | decide⟩ (by decide) rfl (g := (mkF m 9 #[vR xa, vR xc, vI 0, vI 0, vN, uS] [.ref xa])) rfl (hb hby d3_9) (n := 0) (by decide) (by decide) (by decide) (by decide)
  refine gg st2 ?_
  have O4 := O0.ext E2
  have sz5 : h0.size ≤ h2.size := E2.1
  have CR6 := CHr.trans CR0 cs2
  have SF7 := CHr.safe cs2 (show @LT.lt Nat _ xa h0.size by omega) SF3
  have K8 := K0.ext E2
  have nn9 := own_neor (ns2 xa SF7)
  refine qG X2 hx hby hZ2 hown2 (wh hw 24 rfl) e2 Vs2 d3_11 (fun T10 X10 e10 => ?_)
  have f11 := (P1.ext E2)
  have f12 := (P0.ext E2)
  refine qP X10 hx hby hZ2 hown2 (host := "") (Or.inl (wh hw 24 rfl)) Via.refl e10 f11 f12 (Or.inr ⟨(wh hw 20 rfl), rfl, hnm⟩) (wh hw 5 rfl) (ty := (.array .byte)) d3_14 (fun T13 h13 X13 e13 W13 => ?_)
  have O14 := O4.wr W13 (show n0 ≤ xa by omega)
  have sz15 : h13.size = h2.size := Wr.size W13
  have cs16 := CHr.wr W13 SF7 CR6.1
  have CR17 := CHr.trans CR6 cs16
  have SF18 := CHr.safe cs16 (show @LT.lt Nat _ xa h2.size by omega) SF7
  have hk19 := Nat.le_trans hk2 (Nat.le_of_eq (Wr.size W13).symm)
  have K20 := K8.wr W13 (Or.inl (List.mem_of_getElem? (i := 0) rfl))
  have N13 := Fr.snoc X13 N0 (show n0 ≤ xa by omega)
  have Fw13 := f11.same W13
  refine q_aloadN X13 hx hby d3_17 rfl rfl ?_
  obtain ⟨a21, T21, h21, k21, bb21, kb21, X21, e21, E21, hS21, hk21, hZ21, hown21, Es21, Cs21, Vs21, As21, la21, lb21, cs21, -, ns21, st21⟩ := ldcCH (s := s) (vm0 := T2.vm) X13 hx hZ2 hown2 (wh hw 18 rfl) (own_strs hw) e13 hS2 hk19 (own_EW hw) (List.mem_of_getElem? (i := 5) rfl) CR17.1 (vs := []) (z := (0 : Int32)) ⟨by decide, by first | rfl | decide⟩ (by decide) rfl (g := (mkF m 18 #[vR xa, vR xc, vI 0, vI 0, vN, uS] [.ref xa])) rfl (hb hby d3_18) (n := 0) (by decide) (by decide) (by decide) (by decide)
  refine gg st21 ?_
  have O22 := O14.ext E21
  have sz23 : h13.size ≤ h21.size := E21.1
  have CR24 := CHr.trans CR17 cs21
  have SF25 := CHr.safe cs21 (show @LT.lt Nat _ xa h13.size by omega) SF18
  have K26 := K20.ext E21
  have nn27 := own_neor (ns21 xa SF25)
  refine qG X21 hx hby hZ21 hown21 (wh hw 25 rfl) e21 Cs21 d3_20 (fun T28 X28 e28 => ?_)
  have f29 := (((P2.ext E2).other W13 (Or.inr (slot_ne (Or.inr (wh hw 21 rfl)) (Or.inr (wh hw 20 rfl)) (by decide) (t := .byte) (t' := (.array .byte)) (by decide) (by decide)))).ext E21)
  have f30 := ((f12.wr W13).ext E21)
  obtain ⟨T31, h31, X31, e31, W31, st31⟩ := putFN X28 hx hZ21 hown21 (wh hw 25 rfl) Via.refl e28 f29 f30 (Or.inr ⟨(wh hw 21 rfl), rfl, hnm⟩) (wh hw 5 rfl) (ty := .byte) (v' := (.int 0)) (by decide) rfl rfl (g := (mkF m 23 #[vR xa, vR xc, vI 0, vI 0, vN, uS] [.int 0, .ref xa])) rfl rfl (hb hby d3_23)
  refine gg st31 ?_
  have O32 := O22.wr W31 (show n0 ≤ xa by omega)
  have sz33 : h31.size = h21.size := Wr.size W31
  have cs34 := CHr.wr W31 SF25 CR24.1
  have CR35 := CHr.trans CR24 cs34
  have SF36 := CHr.safe cs34 (show @LT.lt Nat _ xa h21.size by omega) SF25
  have hk37 := Nat.le_trans hk21 (Nat.le_of_eq (Wr.size W31).symm)
  have K38 := K26.wr W31 (Or.inl (List.mem_of_getElem? (i := 0) rfl))
  have N31 := Fr.snoc X31 N13 (show n0 ≤ xa by omega)
  have Fw31 := f29.same W31
  refine own_endH X31 hS21 (show _ ≤ T31.heap.size by rw [e31]; exact hk37) e31 hh CR35 hZ21 (own_EW hw) (v := none) (fun _ => rfl) hlk (by decide) (by decide) ?_ (fun fs hr => X31.returnOut hx hret (hb hby d3_26) hr)
  show Q_own_si0 Z xa xc h0 n0 _ T31.heap _
  rw [e31]
  have f39 := (f30.wr W31)
  have f40 := ((Fw13.ext E21).other W31 (Or.inr (slot_ne (Or.inr (wh hw 20 rfl)) (Or.inr (wh hw 21 rfl)) (by decide) (t := (.array .byte)) (t' := .byte) (by decide) (by decide))))
  have f41 := (((As2.other W13 (nE bb2 xa (by omega))).ext E21).other W31 (nE bb2 xa (by omega)))
  exact ⟨N31, K38, bb2, rfl, ⟨f39, f40, _, _, _, _, Fw31, f41, Or.inl ⟨rfl, rfl, rfl, own_al0⟩, own_al0, Nat.le_of_ble_eq_true rfl⟩⟩
abbrev own_m8 : MethodName := ⟨"java/lang/String", "<init>", "([CIILjava/lang/Void;)V"⟩
theorem own_ef_own_sc0 (m : MethodId) (xa : Addr) (xc : Addr) : entryFrame m #[.ref xa, .ref xc] 2 = mkF m 0 #[vR xa, vR xc] [] := by first | (simp [entryFrame, mkF, argsToLocals, Value.category]; done) | rfl
def Q_own_sc0 (Z : State) (xa : Addr) (xc : Addr) (xk : ClassId) (h0 : Heap) (n0 : Nat) (v : Option Value) (h : Heap) (L : List Loc) : Prop := Fr n0 L ∧ Keep h0 h [xa] ∧ ∃ (rb : Addr), v = none ∧ own_Str Z h xa rb ([] : List Int32)
theorem own_sc0 (l : Launch) (Z : State) (a0 : Array Value) (hw : ∀ d ∈ tables_1, d.before a0 Z = true) (ws : List Jvm.Cond) (xa : Addr) (xc : Addr) (xk : ClassId) (h0 : Heap) (n0 : Nat) (O0 : Old Z n0 h0) (P0 : Exa Z h0 xa "java/lang/String") (P1 : Fld Z h0 xa "java/lang/String" "value" "[B" .null) (P2 : Fld Z h0 xa "java/lang/String" "coder" "B" (.int 0)) (P3 : n0 ≤ xa) (P4 : Arv Z h0 xc xk .char (0 : Int32) [] (.int 0)) :
    MetFree l (⟨"java/lang/String", "<init>", "([C)V"⟩ : MethodName) (head1 (Jvm.Cond.code (⟨"java/lang/String", "<init>", "([C)V"⟩ : MethodName) jdk_42_method_3_code 2 none :: ws) ({ frames := 2, cells := 4, slots := 8, locals := 29 } : Room)) (fun as_ U_ => as_ = #[.ref xa, .ref xc] ∧ Z.Warmed39 U_.vm ∧ U_.heap = h0 ∧ CHv Z consts_1 U_.vm h0) (fun _ _ _ _ _ => True) (fun _ U_ o_ U2_ => ∃ v_ L_, o_ = .returned v_ ∧ Q_own_sc0 Z xa xc xk h0 n0 v_ U2_.heap L_ ∧ CHr Z consts_1 U_.vm U_.heap U2_.vm U2_.heap ∧ ReturnedEndW U_ o_ U2_ L_ ({ frames := 2, cells := 4, slots := 8, locals := 29 } : Room).cells ({ frames := 2, cells := 4, slots := 8, locals := 29 } : Room).slots) := by
  refine MetFree.of_bodySF (plainFor_of_name own_pn_java_lang_String) hisR ?_
  intro p e s m args below meth c s₁ Bd hml0 hP hK
  obtain ⟨rfl, hZ, hh, hC0⟩ := hP
  have hx := Bd.exec
  have hby := Bd.bytes
  have hml : c.maxLocals = 2 := hml0
  have hown : s.vm.findClass "java/lang/String" = some m.cls := findClass_of_methodNamed Bd.named
  have hnm := (name_of_methodNamed Bd.named Bd.method).1
  have hlk : meth.locks = false := Bd.notSynchronized
  have hret := Bd.returns
  have X0 : Stand p l e ({ frames := 2, cells := 4, slots := 8, locals := 29 } : Room) s m #[.ref xa, .ref xc] below meth c s₁ [] 0 0 := Stand.of_body Bd
  have e0 : s₁.heap = h0 := by rw [← hh, Bd.state]; rfl
  have N0 := Fr.nil n0
  have z0 : Z.heap.size = n0 := O0.1
  have z1 : n0 ≤ h0.size := z0 ▸ O0.2.1
  have K0 : Keep h0 h0 [xa] := Keep.refl _ _
  have hS0 : s.Since s.vm 0 := (State.WarmedH.refl s).since 0
  have hk0 : 0 ≤ h0.size := Nat.zero_le _
  replace X0 : Stand p l e ({ frames := 2, cells := 4, slots := 8, locals := 29 } : Room) (s.setVm s.vm) m #[.ref xa, .ref xc] below meth c s₁ [] 0 0 := X0
  have CR0 := CHr.refl hC0
  show own_Goes p e below (s₁.setTop (entryFrame m #[.ref xa, .ref xc] 2)) (own_PostH Z consts_1 s (Q_own_sc0 Z xa xc xk h0 n0) ({ frames := 2, cells := 4, slots := 8, locals := 29 } : Room).cells ({ frames := 2, cells := 4, slots := 8, locals := 29 } : Room).slots)
  refine own_cast (own_ef_own_sc0 m xa xc) ?_
  show own_Goes p e below (s₁.setTop (mkF m 0 #[vR xa, vR xc] [])) _
  have ltP0 : @LT.lt Nat _ xa h0.size := P0.lt
  have ltP4 : @LT.lt Nat _ xc h0.size := P4.lt
  refine q_aloadN X0 hx hby d2_0 rfl rfl ?_
  refine q_aloadN X0 hx hby d2_1 rfl rfl ?_
  refine q_iconst X0 hx hby d2_2 ?_
  refine q_aloadN X0 hx hby d2_3 rfl rfl ?_
  refine q_len X0 hx hby hZ e0 P4 d2_4 ?_
  refine q_aconstNull X0 hx hby d2_5 ?_
  obtain ⟨_, _, ⟨T2, L2, k2, n2⟩, -, X2, hS2, gr2, ⟨Lc2, hQ2, l2, y2, z2, cs2⟩, st2⟩ := X0.specialBackS hx (y := own_m8) rfl hown (mvT hZ (wh hw 11 rfl)) (mvT hZ (wh hw 12 rfl)) (mvT hZ (wh hw 14 rfl)) (by decide) (backOfSH (W := 0) (own_si0 l Z a0 hw [] xa xc h0 n0 O0 P0 P1 P2 (show n0 ≤ xa by first | assumption | omega | decide)) hZ (wh hw 14 rfl) (wh hw 6 rfl) (by decide) (by decide) (own_EW hw) CR0.1) (g := (mkF m 6 #[vR xa, vR xc] [.null, .int 0, .int 0, .ref xc, .ref xa])) rfl (by rw [hml]; rfl) (Steps.refl _) (a := xa) (argsL := [.ref xc, .int 0, .int 0, .null]) (rest := []) (lenOf own_pd_7 rfl) rfl (by show 2 * 0 + _ ≤ _; exact Nat.le_of_eq rfl) (hb hby d2_6) (fun _ _ => ⟨rfl, e0, (by decide : 0 + 4 ≤ _), (by decide : 0 + 8 ≤ _)⟩)
  dsimp only [Pt.U, Pt.locs, Pt.cells, Pt.slots] at X2 l2 y2 z2 st2 hQ2 hS2 gr2 cs2
  subst l2 y2 z2
  obtain ⟨h2, e2⟩ : ∃ z, T2.heap = z := ⟨_, rfl⟩
  rw [e2] at hQ2 hS2 gr2 cs2
  obtain ⟨Nc2, Kc2, rb_2, rfl, c2_0⟩ := hQ2
  obtain ⟨X2, hS2, hZ2, hown2⟩ := rebS (own := "java/lang/String") hS0 (show _ ≤ s₁.heap.size by rw [e0]; exact hk0) X2 hS2 gr2 hZ hown
  have hk2 : h2.size ≤ h2.size := Nat.le_refl _
  have N2 := Fr.app N0 Nc2
  have O3 := O0.keep Kc2 (allS (show n0 ≤ xa by omega) all0)
  have sz4 : h0.size ≤ h2.size := Kc2.1
  have CR5 := CHr.trans CR0 cs2
  have K6 := Keep.trans K0 Kc2 (allS (Or.inl (List.mem_of_getElem? (i := 0) rfl)) all0)
  have ltc2_0 : @LT.lt Nat _ xa h2.size := c2_0.1.lt
  have luc2_0 : @LT.lt Nat _ rb_2 h2.size := c2_0.lt2
  refine own_goS st2 ?_
  refine own_endH X2 hS2 (show _ ≤ T2.heap.size by rw [e2]; exact hk2) e2 hh CR5 hZ2 (own_EW hw) (v := none) (fun _ => rfl) hlk (by decide) (by decide) ?_ (fun fs hr => X2.returnOut hx hret (hb hby d2_9) hr)
  show Q_own_sc0 Z xa xc xk h0 n0 _ T2.heap _
  rw [e2]
  exact ⟨N2, K6, rb_2, rfl, c2_0⟩
theorem d12_0 : decode B12 0 = .ok (.getstatic 38, 3) := by decide +kernel
theorem d12_3 : decode B12 3 = .ok (.ifCond .eq 10, 3) := by decide +kernel
theorem d12_6 : decode B12 6 = .ok (.aload_n 0, 1) := by decide +kernel
theorem d12_7 : decode B12 7 = .ok (.getfield 15, 3) := by decide +kernel
theorem d12_10 : decode B12 10 = .ok (.goto 4, 3) := by decide +kernel
theorem d12_14 : decode B12 14 = .ok (.ireturn, 1) := by decide +kernel
theorem own_ef_own_coder0 (m : MethodId) (xa : Addr) : entryFrame m #[.ref xa] 1 = mkF m 0 #[vR xa] [] := by first | (simp [entryFrame, mkF, argsToLocals, Value.category]; done) | rfl
def Q_own_coder0 (Z : State) (xa : Addr) (gz : Int32) (gfm : Value) (gwC : Addr) (gwM : Addr) (h0 : Heap) (n0 : Nat) (v : Option Value) (h : Heap) (L : List Loc) : Prop := Fr n0 L ∧ h = h0 ∧ v = some (.int 0)
theorem own_coder0 (l : Launch) (Z : State) (a0 : Array Value) (hw : ∀ d ∈ tables_1, d.before a0 Z = true) (ws : List Jvm.Cond) (xa : Addr) (h0 : Heap) (n0 : Nat) (O0 : Old Z n0 h0) (gz : Int32) (gfm : Value) (gwC : Addr) (gwM : Addr) (G : GG Z gz gfm gwC gwM) (P0 : Fld Z h0 xa "java/lang/String" "coder" "B" (.int 0)) : own_Met l Z (⟨"java/lang/String", "coder", "()B"⟩ : MethodName) jdk_42_method_152_code 1 (some .byte) ws ({ frames := 0, cells := 0, slots := 0, locals := 0 } : Room) #[.ref xa] h0 (Q_own_coder0 Z xa gz gfm gwC gwM h0 n0) := by
  refine own_mk (plainFor_of_name own_pn_java_lang_String) O0 ?_
  intro p e s m below meth c s₁ hx hby hml hZ hown hnm hlk hret X0 e0 N0 z0 z1
  refine own_cast (own_ef_own_coder0 m xa) ?_
  show own_Goes p e below (s₁.setTop (mkF m 0 #[vR xa] [])) _
  obtain ⟨G0, G1, G2, G3, G4, G5, G6, G7, G8, G9, G10, G11⟩ := id G
  have ltG8 : @LT.lt Nat _ gwC Z.heap.size := G8.lt
  have ltG10 : @LT.lt Nat _ gwM Z.heap.size := G10.lt
  have q1 := G0.ext O0.2
  refine qS X0 hx hby hZ hown (host := "") (Or.inl (wh hw 26 rfl)) Via.refl e0 q1 d12_0 (fun T2 X2 e2 => ?_)
  refine q_ifNo X2 hx hby d12_3 ((if0 _ _).trans (feq (show ¬ (gz = (0 : Int32)) from G1)).1) ?_
  refine q_aloadN X2 hx hby d12_6 rfl rfl ?_
  refine qG X2 hx hby hZ hown (wh hw 25 rfl) e2 P0 d12_7 (fun T3 X3 e3 => ?_)
  refine q_goto (pc := 10) X3 hx hby d12_10 (pc' := 14) (by decide) (by decide) ?_
  refine r_B X3 hx hby hret hlk d12_14 e3 ?_
  exact ⟨N0, rfl, rfl⟩
theorem own_ef_own_coder1 (m : MethodId) (xa : Addr) : entryFrame m #[.ref xa] 1 = mkF m 0 #[vR xa] [] := by first | (simp [entryFrame, mkF, argsToLocals, Value.category]; done) | rfl
def Q_own_coder1 (Z : State) (xa : Addr) (gz : Int32) (gfm : Value) (gwC : Addr) (gwM : Addr) (h0 : Heap) (n0 : Nat) (v : Option Value) (h : Heap) (L : List Loc) : Prop := Fr n0 L ∧ h = h0 ∧ v = some (.int 1)
theorem own_coder1 (l : Launch) (Z : State) (a0 : Array Value) (hw : ∀ d ∈ tables_1, d.before a0 Z = true) (ws : List Jvm.Cond) (xa : Addr) (h0 : Heap) (n0 : Nat) (O0 : Old Z n0 h0) (gz : Int32) (gfm : Value) (gwC : Addr) (gwM : Addr) (G : GG Z gz gfm gwC gwM) (P0 : Fld Z h0 xa "java/lang/String" "coder" "B" (.int 1)) : own_Met l Z (⟨"java/lang/String", "coder", "()B"⟩ : MethodName) jdk_42_method_152_code 1 (some .byte) ws ({ frames := 0, cells := 0, slots := 0, locals := 0 } : Room) #[.ref xa] h0 (Q_own_coder1 Z xa gz gfm gwC gwM h0 n0) := by
  refine own_mk (plainFor_of_name own_pn_java_lang_String) O0 ?_
  intro p e s m below meth c s₁ hx hby hml hZ hown hnm hlk hret X0 e0 N0 z0 z1
  refine own_cast (own_ef_own_coder1 m xa) ?_
  show own_Goes p e below (s₁.setTop (mkF m 0 #[vR xa] [])) _
  obtain ⟨G0, G1, G2, G3, G4, G5, G6, G7, G8, G9, G10, G11⟩ := id G
  have ltG8 : @LT.lt Nat _ gwC Z.heap.size := G8.lt
  have ltG10 : @LT.lt Nat _ gwM Z.heap.size := G10.lt
  have q1 := G0.ext O0.2
  refine qS X0 hx hby hZ hown (host := "") (Or.inl (wh hw 26 rfl)) Via.refl e0 q1 d12_0 (fun T2 X2 e2 => ?_)
  refine q_ifNo X2 hx hby d12_3 ((if0 _ _).trans (feq (show ¬ (gz = (0 : Int32)) from G1)).1) ?_
  refine q_aloadN X2 hx hby d12_6 rfl rfl ?_
  refine qG X2 hx hby hZ hown (wh hw 25 rfl) e2 P0 d12_7 (fun T3 X3 e3 => ?_)
  refine q_goto (pc := 10) X3 hx hby d12_10 (pc' := 14) (by decide) (by decide) ?_
  refine r_B X3 hx hby hret hlk d12_14 e3 ?_
  exact ⟨N0, rfl, rfl⟩
theorem d11_0 : decode B11 0 = .ok (.aload_n 0, 1) := by decide +kernel
theorem d11_1 : decode B11 1 = .ok (.getfield 9, 3) := by decide +kernel
theorem d11_4 : decode B11 4 = .ok (.arraylength, 1) := by decide +kernel
theorem d11_5 : decode B11 5 = .ok (.aload_n 0, 1) := by decide +kernel
theorem d11_6 : decode B11 6 = .ok (.invokevirtual 335, 3) := by decide +kernel
theorem own_pd_9 : parseMethodDescriptor "()B" = some ⟨[], some .byte⟩ := by decide +kernel
theorem d11_9 : decode B11 9 = .ok (.ishr, 1) := by decide +kernel
theorem d11_10 : decode B11 10 = .ok (.ireturn, 1) := by decide +kernel
theorem own_ef_own_len0 (m : MethodId) (xa : Addr) : entryFrame m #[.ref xa] 1 = mkF m 0 #[vR xa] [] := by first | (simp [entryFrame, mkF, argsToLocals, Value.category]; done) | rfl
def Q_own_len0 (Z : State) (xa : Addr) (xt : Addr) (gz : Int32) (gfm : Value) (gwC : Addr) (gwM : Addr) (h0 : Heap) (n0 : Nat) (v : Option Value) (h : Heap) (L : List Loc) : Prop := Fr n0 L ∧ h = h0 ∧ v = some (.int 0)
theorem own_len0 (l : Launch) (Z : State) (a0 : Array Value) (hw : ∀ d ∈ tables_1, d.before a0 Z = true) (ws : List Jvm.Cond) (xa : Addr) (xt : Addr) (h0 : Heap) (n0 : Nat) (O0 : Old Z n0 h0) (gz : Int32) (gfm : Value) (gwC : Addr) (gwM : Addr) (G : GG Z gz gfm gwC gwM) (P0 : own_Str Z h0 xa xt ([] : List Int32)) : own_Met l Z (⟨"java/lang/String", "length", "()I"⟩ : MethodName) jdk_42_method_54_code 1 (some .int) ws ({ frames := 1, cells := 0, slots := 0, locals := 13 } : Room) #[.ref xa] h0 (Q_own_len0 Z xa xt gz gfm gwC gwM h0 n0) := by
  refine own_mk (plainFor_of_name own_pn_java_lang_String) O0 ?_
  intro p e s m below meth c s₁ hx hby hml hZ hown hnm hlk hret X0 e0 N0 z0 z1
  refine own_cast (own_ef_own_len0 m xa) ?_
  show own_Goes p e below (s₁.setTop (mkF m 0 #[vR xa] [])) _
  obtain ⟨G0, G1, G2, G3, G4, G5, G6, G7, G8, G9, G10, G11⟩ := id G
  have ltG8 : @LT.lt Nat _ gwC Z.heap.size := G8.lt
  have ltG10 : @LT.lt Nat _ gwM Z.heap.size := G10.lt
  have ltP0 : @LT.lt Nat _ xa h0.size := P0.1.lt
  have luP0 : @LT.lt Nat _ xt h0.size := P0.lt2
  obtain ⟨Es1, Vs1, kbs1, cds1, Ns1, vss1, Cs1, As1, hCs1, hbs1, hls1⟩ := id P0
  rcases hCs1 with ⟨rfl, rfl, rfl, hLs1⟩ | ⟨rfl, rfl, rfl, hWs1⟩
  · have Bs1 : Arv Z h0 xt kbs1 .byte (0 : Int32) [] (.int 0) := As1
    have Ds1 : Fld Z h0 xa "java/lang/String" "coder" "B" (.int 0) := Cs1
    show own_Goes p e below (s₁.setTop (mkF m 0 #[vR xa] [])) _
    refine q_aloadN X0 hx hby d11_0 rfl rfl ?_
    refine qG X0 hx hby hZ hown (wh hw 24 rfl) e0 Vs1 d11_1 (fun T2 X2 e2 => ?_)
    refine q_len X2 hx hby hZ e2 Bs1 d11_4 ?_
    refine q_aloadN X2 hx hby d11_5 rfl rfl ?_
    refine k_V X2 hx hby hZ hown (wh hw 55 rfl) (wh hw 56 rfl) (wh hw 58 rfl) (wh hw 57 rfl) (W := 1) (own_coder0 l Z a0 hw [] xa h0 n0 O0 gz gfm gwC gwM G Ds1) (wh hw 59 rfl) (wh hw 6 rfl) e2 Es1  hml (argsL := []) (rest := [.int 0]) own_pd_9 d11_6 (fun _ T4 L4 X4 hQ4 => ?_)
    obtain ⟨Nc4, e4, rfl⟩ := hQ4
    have N4 := Fr.app N0 Nc4
    refine gg (fun t k => XS.ishr X4.here hx rfl (hb hby d11_9) rfl k) ?_
    show own_Goes p e below (T4.setTop (mkF m 10 #[vR xa] [(.int ((0 : Int32) >>> ((0 : Int32) &&& 31)))])) _
    rw [show ((0 : Int32) >>> ((0 : Int32) &&& 31)) = (0 : Int32) from by decide]
    refine r_I X4 hx hby hret hlk d11_10 e4 ?_
    exact ⟨N4, rfl, rfl⟩
  · have Bs1 : Arv Z h0 xt kbs1 .byte (0 : Int32) [] (.int 0) := As1
    have Ds1 : Fld Z h0 xa "java/lang/String" "coder" "B" (.int 1) := Cs1
    show own_Goes p e below (s₁.setTop (mkF m 0 #[vR xa] [])) _
    refine q_aloadN X0 hx hby d11_0 rfl rfl ?_
    refine qG X0 hx hby hZ hown (wh hw 24 rfl) e0 Vs1 d11_1 (fun T5 X5 e5 => ?_)
    refine q_len X5 hx hby hZ e5 Bs1 d11_4 ?_
    refine q_aloadN X5 hx hby d11_5 rfl rfl ?_
    refine k_V X5 hx hby hZ hown (wh hw 55 rfl) (wh hw 56 rfl) (wh hw 58 rfl) (wh hw 57 rfl) (W := 1) (own_coder1 l Z a0 hw [] xa h0 n0 O0 gz gfm gwC gwM G Ds1) (wh hw 59 rfl) (wh hw 6 rfl) e5 Es1  hml (argsL := []) (rest := [.int 0]) own_pd_9 d11_6 (fun _ T7 L7 X7 hQ7 => ?_)
    obtain ⟨Nc7, e7, rfl⟩ := hQ7
    have N7 := Fr.app N0 Nc7
    refine gg (fun t k => XS.ishr X7.here hx rfl (hb hby d11_9) rfl k) ?_
    show own_Goes p e below (T7.setTop (mkF m 10 #[vR xa] [(.int ((0 : Int32) >>> ((1 : Int32) &&& 31)))])) _
    rw [show ((0 : Int32) >>> ((1 : Int32) &&& 31)) = (0 : Int32) from by decide]
    refine r_I X7 hx hby hret hlk d11_10 e7 ?_
    exact ⟨N7, rfl, rfl⟩
theorem own_ef_own_len1 (m : MethodId) (xa : Addr) : entryFrame m #[.ref xa] 1 = mkF m 0 #[vR xa] [] := by first | (simp [entryFrame, mkF, argsToLocals, Value.category]; done) | rfl
def Q_own_len1 (Z : State) (xa : Addr) (xt : Addr) (c0 : Int32) (gz : Int32) (gfm : Value) (gwC : Addr) (gwM : Addr) (h0 : Heap) (n0 : Nat) (v : Option Value) (h : Heap) (L : List Loc) : Prop := Fr n0 L ∧ h = h0 ∧ v = some (.int 1)
theorem own_len1 (l : Launch) (Z : State) (a0 : Array Value) (hw : ∀ d ∈ tables_1, d.before a0 Z = true) (ws : List Jvm.Cond) (xa : Addr) (xt : Addr) (c0 : Int32) (h0 : Heap) (n0 : Nat) (O0 : Old Z n0 h0) (gz : Int32) (gfm : Value) (gwC : Addr) (gwM : Addr) (G : GG Z gz gfm gwC gwM) (P0 : own_Str Z h0 xa xt ([c0] : List Int32)) : own_Met l Z (⟨"java/lang/String", "length", "()I"⟩ : MethodName) jdk_42_method_54_code 1 (some .int) ws ({ frames := 1, cells := 0, slots := 0, locals := 13 } : Room) #[.ref xa] h0 (Q_own_len1 Z xa xt c0 gz gfm gwC gwM h0 n0) := by
  refine own_mk (plainFor_of_name own_pn_java_lang_String) O0 ?_
  intro p e s m below meth c s₁ hx hby hml hZ hown hnm hlk hret X0 e0 N0 z0 z1
  refine own_cast (own_ef_own_len1 m xa) ?_
  show own_Goes p e below (s₁.setTop (mkF m 0 #[vR xa] [])) _
  obtain ⟨G0, G1, G2, G3, G4, G5, G6, G7, G8, G9, G10, G11⟩ := id G
  have ltG8 : @LT.lt Nat _ gwC Z.heap.size := G8.lt
  have ltG10 : @LT.lt Nat _ gwM Z.heap.size := G10.lt
  have ltP0 : @LT.lt Nat _ xa h0.size := P0.1.lt
  have luP0 : @LT.lt Nat _ xt h0.size := P0.lt2
  obtain ⟨Es1, Vs1, kbs1, cds1, Ns1, vss1, Cs1, As1, hCs1, hbs1, hls1⟩ := id P0
  rcases hCs1 with ⟨rfl, rfl, rfl, hLs1⟩ | ⟨rfl, rfl, rfl, hWs1⟩
  · have Bs1 : Arv Z h0 xt kbs1 .byte (1 : Int32) [(.int (c0.toInt8.toInt32))] (.int 0) := As1
    have Ds1 : Fld Z h0 xa "java/lang/String" "coder" "B" (.int 0) := Cs1
    show own_Goes p e below (s₁.setTop (mkF m 0 #[vR xa] [])) _
    refine q_aloadN X0 hx hby d11_0 rfl rfl ?_
    refine qG X0 hx hby hZ hown (wh hw 24 rfl) e0 Vs1 d11_1 (fun T2 X2 e2 => ?_)
    refine q_len X2 hx hby hZ e2 Bs1 d11_4 ?_
    refine q_aloadN X2 hx hby d11_5 rfl rfl ?_
    refine k_V X2 hx hby hZ hown (wh hw 55 rfl) (wh hw 56 rfl) (wh hw 58 rfl) (wh hw 57 rfl) (W := 1) (own_coder0 l Z a0 hw [] xa h0 n0 O0 gz gfm gwC gwM G Ds1) (wh hw 59 rfl) (wh hw 6 rfl) e2 Es1  hml (argsL := []) (rest := [.int 1]) own_pd_9 d11_6 (fun _ T4 L4 X4 hQ4 => ?_)
    obtain ⟨Nc4, e4, rfl⟩ := hQ4
    have N4 := Fr.app N0 Nc4
    refine gg (fun t k => XS.ishr X4.here hx rfl (hb hby d11_9) rfl k) ?_
    show own_Goes p e below (T4.setTop (mkF m 10 #[vR xa] [(.int ((1 : Int32) >>> ((0 : Int32) &&& 31)))])) _
    rw [show ((1 : Int32) >>> ((0 : Int32) &&& 31)) = (1 : Int32) from by decide]
    refine r_I X4 hx hby hret hlk d11_10 e4 ?_
    exact ⟨N4, rfl, rfl⟩
  · have Bs1 : Arv Z h0 xt kbs1 .byte (2 : Int32) [(.int (c0.toInt8.toInt32)), (.int ((c0 >>> ((8 : Int32) &&& 31)).toInt8.toInt32))] (.int 0) := As1
    have Ds1 : Fld Z h0 xa "java/lang/String" "coder" "B" (.int 1) := Cs1
    show own_Goes p e below (s₁.setTop (mkF m 0 #[vR xa] [])) _
    refine q_aloadN X0 hx hby d11_0 rfl rfl ?_
    refine qG X0 hx hby hZ hown (wh hw 24 rfl) e0 Vs1 d11_1 (fun T5 X5 e5 => ?_)
    refine q_len X5 hx hby hZ e5 Bs1 d11_4 ?_
    refine q_aloadN X5 hx hby d11_5 rfl rfl ?_
    refine k_V X5 hx hby hZ hown (wh hw 55 rfl) (wh hw 56 rfl) (wh hw 58 rfl) (wh hw 57 rfl) (W := 1) (own_coder1 l Z a0 hw [] xa h0 n0 O0 gz gfm gwC gwM G Ds1) (wh hw 59 rfl) (wh hw 6 rfl) e5 Es1  hml (argsL := []) (rest := [.int 2]) own_pd_9 d11_6 (fun _ T7 L7 X7 hQ7 => ?_)
    obtain ⟨Nc7, e7, rfl⟩ := hQ7
    have N7 := Fr.app N0 Nc7
    refine gg (fun t k => XS.ishr X7.here hx rfl (hb hby d11_9) rfl k) ?_
    show own_Goes p e below (T7.setTop (mkF m 10 #[vR xa] [(.int ((2 : Int32) >>> ((1 : Int32) &&& 31)))])) _
    rw [show ((2 : Int32) >>> ((1 : Int32) &&& 31)) = (1 : Int32) from by decide]
    refine r_I X7 hx hby hret hlk d11_10 e7 ?_
    exact ⟨N7, rfl, rfl⟩
theorem own_ef_own_len2 (m : MethodId) (xa : Addr) : entryFrame m #[.ref xa] 1 = mkF m 0 #[vR xa] [] := by first | (simp [entryFrame, mkF, argsToLocals, Value.category]; done) | rfl
def Q_own_len2 (Z : State) (xa : Addr) (xt : Addr) (c0 : Int32) (c1 : Int32) (gz : Int32) (gfm : Value) (gwC : Addr) (gwM : Addr) (h0 : Heap) (n0 : Nat) (v : Option Value) (h : Heap) (L : List Loc) : Prop := Fr n0 L ∧ h = h0 ∧ v = some (.int 2)
theorem own_len2 (l : Launch) (Z : State) (a0 : Array Value) (hw : ∀ d ∈ tables_1, d.before a0 Z = true) (ws : List Jvm.Cond) (xa : Addr) (xt : Addr) (c0 : Int32) (c1 : Int32) (h0 : Heap) (n0 : Nat) (O0 : Old Z n0 h0) (gz : Int32) (gfm : Value) (gwC : Addr) (gwM : Addr) (G : GG Z gz gfm gwC gwM) (P0 : own_Str Z h0 xa xt ([c0, c1] : List Int32)) : own_Met l Z (⟨"java/lang/String", "length", "()I"⟩ : MethodName) jdk_42_method_54_code 1 (some .int) ws ({ frames := 1, cells := 0, slots := 0, locals := 13 } : Room) #[.ref xa] h0 (Q_own_len2 Z xa xt c0 c1 gz gfm gwC gwM h0 n0) := by
  refine own_mk (plainFor_of_name own_pn_java_lang_String) O0 ?_
  intro p e s m below meth c s₁ hx hby hml hZ hown hnm hlk hret X0 e0 N0 z0 z1
  refine own_cast (own_ef_own_len2 m xa) ?_
  show own_Goes p e below (s₁.setTop (mkF m 0 #[vR xa] [])) _
  obtain ⟨G0, G1, G2, G3, G4, G5, G6, G7, G8, G9, G10, G11⟩ := id G
  have ltG8 : @LT.lt Nat _ gwC Z.heap.size := G8.lt
  have ltG10 : @LT.lt Nat _ gwM Z.heap.size := G10.lt
  have ltP0 : @LT.lt Nat _ xa h0.size := P0.1.lt
  have luP0 : @LT.lt Nat _ xt h0.size := P0.lt2
  obtain ⟨Es1, Vs1, kbs1, cds1, Ns1, vss1, Cs1, As1, hCs1, hbs1, hls1⟩ := id P0
  rcases hCs1 with ⟨rfl, rfl, rfl, hLs1⟩ | ⟨rfl, rfl, rfl, hWs1⟩
  · have Bs1 : Arv Z h0 xt kbs1 .byte (2 : Int32) [(.int (c0.toInt8.toInt32)), (.int (c1.toInt8.toInt32))] (.int 0) := As1
    have Ds1 : Fld Z h0 xa "java/lang/String" "coder" "B" (.int 0) := Cs1
    show own_Goes p e below (s₁.setTop (mkF m 0 #[vR xa] [])) _
    refine q_aloadN X0 hx hby d11_0 rfl rfl ?_
    refine qG X0 hx hby hZ hown (wh hw 24 rfl) e0 Vs1 d11_1 (fun T2 X2 e2 => ?_)
    refine q_len X2 hx hby hZ e2 Bs1 d11_4 ?_
    refine q_aloadN X2 hx hby d11_5 rfl rfl ?_
    refine k_V X2 hx hby hZ hown (wh hw 55 rfl) (wh hw 56 rfl) (wh hw 58 rfl) (wh hw 57 rfl) (W := 1) (own_coder0 l Z a0 hw [] xa h0 n0 O0 gz gfm gwC gwM G Ds1) (wh hw 59 rfl) (wh hw 6 rfl) e2 Es1  hml (argsL := []) (rest := [.int 2]) own_pd_9 d11_6 (fun _ T4 L4 X4 hQ4 => ?_)
    obtain ⟨Nc4, e4, rfl⟩ := hQ4
    have N4 := Fr.app N0 Nc4
    refine gg (fun t k => XS.ishr X4.here hx rfl (hb hby d11_9) rfl k) ?_
    show own_Goes p e below (T4.setTop (mkF m 10 #[vR xa] [(.int ((2 : Int32) >>> ((0 : Int32) &&& 31)))])) _
    rw [show ((2 : Int32) >>> ((0 : Int32) &&& 31)) = (2 : Int32) from by decide]
    refine r_I X4 hx hby hret hlk d11_10 e4 ?_
    exact ⟨N4, rfl, rfl⟩
  · have Bs1 : Arv Z h0 xt kbs1 .byte (4 : Int32) [(.int (c0.toInt8.toInt32)), (.int ((c0 >>> ((8 : Int32) &&& 31)).toInt8.toInt32)), (.int (c1.toInt8.toInt32)), (.int ((c1 >>> ((8 : Int32) &&& 31)).toInt8.toInt32))] (.int 0) := As1
    have Ds1 : Fld Z h0 xa "java/lang/String" "coder" "B" (.int 1) := Cs1
    show own_Goes p e below (s₁.setTop (mkF m 0 #[vR xa] [])) _
    refine q_aloadN X0 hx hby d11_0 rfl rfl ?_
    refine qG X0 hx hby hZ hown (wh hw 24 rfl) e0 Vs1 d11_1 (fun T5 X5 e5 => ?_)
    refine q_len X5 hx hby hZ e5 Bs1 d11_4 ?_
    refine q_aloadN X5 hx hby d11_5 rfl rfl ?_
    refine k_V X5 hx hby hZ hown (wh hw 55 rfl) (wh hw 56 rfl) (wh hw 58 rfl) (wh hw 57 rfl) (W := 1) (own_coder1 l Z a0 hw [] xa h0 n0 O0 gz gfm gwC gwM G Ds1) (wh hw 59 rfl) (wh hw 6 rfl) e5 Es1  hml (argsL := []) (rest := [.int 4]) own_pd_9 d11_6 (fun _ T7 L7 X7 hQ7 => ?_)
    obtain ⟨Nc7, e7, rfl⟩ := hQ7
    have N7 := Fr.app N0 Nc7
    refine gg (fun t k => XS.ishr X7.here hx rfl (hb hby d11_9) rfl k) ?_
    show own_Goes p e below (T7.setTop (mkF m 10 #[vR xa] [(.int ((4 : Int32) >>> ((1 : Int32) &&& 31)))])) _
    rw [show ((4 : Int32) >>> ((1 : Int32) &&& 31)) = (2 : Int32) from by decide]
    refine r_I X7 hx hby hret hlk d11_10 e7 ?_
    exact ⟨N7, rfl, rfl⟩
theorem own_ef_own_len3 (m : MethodId) (xa : Addr) : entryFrame m #[.ref xa] 1 = mkF m 0 #[vR xa] [] := by first | (simp [entryFrame, mkF, argsToLocals, Value.category]; done) | rfl
def Q_own_len3 (Z : State) (xa : Addr) (xt : Addr) (c0 : Int32) (c1 : Int32) (c2 : Int32) (gz : Int32) (gfm : Value) (gwC : Addr) (gwM : Addr) (h0 : Heap) (n0 : Nat) (v : Option Value) (h : Heap) (L : List Loc) : Prop := Fr n0 L ∧ h = h0 ∧ v = some (.int 3)
theorem own_len3 (l : Launch) (Z : State) (a0 : Array Value) (hw : ∀ d ∈ tables_1, d.before a0 Z = true) (ws : List Jvm.Cond) (xa : Addr) (xt : Addr) (c0 : Int32) (c1 : Int32) (c2 : Int32) (h0 : Heap) (n0 : Nat) (O0 : Old Z n0 h0) (gz : Int32) (gfm : Value) (gwC : Addr) (gwM : Addr) (G : GG Z gz gfm gwC gwM) (P0 : own_Str Z h0 xa xt ([c0, c1, c2] : List Int32)) : own_Met l Z (⟨"java/lang/String", "length", "()I"⟩ : MethodName) jdk_42_method_54_code 1 (some .int) ws ({ frames := 1, cells := 0, slots := 0, locals := 13 } : Room) #[.ref xa] h0 (Q_own_len3 Z xa xt c0 c1 c2 gz gfm gwC gwM h0 n0) := by
  refine own_mk (plainFor_of_name own_pn_java_lang_String) O0 ?_
  intro p e s m below meth c s₁ hx hby hml hZ hown hnm hlk hret X0 e0 N0 z0 z1
  refine own_cast (own_ef_own_len3 m xa) ?_
  show own_Goes p e below (s₁.setTop (mkF m 0 #[vR xa] [])) _
  obtain ⟨G0, G1, G2, G3, G4, G5, G6, G7, G8, G9, G10, G11⟩ := id G
  have ltG8 : @LT.lt Nat _ gwC Z.heap.size := G8.lt
  have ltG10 : @LT.lt Nat _ gwM Z.heap.size := G10.lt
  have ltP0 : @LT.lt Nat _ xa h0.size := P0.1.lt
  have luP0 : @LT.lt Nat _ xt h0.size := P0.lt2
  obtain ⟨Es1, Vs1, kbs1, cds1, Ns1, vss1, Cs1, As1, hCs1, hbs1, hls1⟩ := id P0
  rcases hCs1 with ⟨rfl, rfl, rfl, hLs1⟩ | ⟨rfl, rfl, rfl, hWs1⟩
  · have Bs1 : Arv Z h0 xt kbs1 .byte (3 : Int32) [(.int (c0.toInt8.toInt32)), (.int (c1.toInt8.toInt32)), (.int (c2.toInt8.toInt32))] (.int 0) := As1
    have Ds1 : Fld Z h0 xa "java/lang/String" "coder" "B" (.int 0) := Cs1
    show own_Goes p e below (s₁.setTop (mkF m 0 #[vR xa] [])) _
    refine q_aloadN X0 hx hby d11_0 rfl rfl ?_
    refine qG X0 hx hby hZ hown (wh hw 24 rfl) e0 Vs1 d11_1 (fun T2 X2 e2 => ?_)
    refine q_len X2 hx hby hZ e2 Bs1 d11_4 ?_
    refine q_aloadN X2 hx hby d11_5 rfl rfl ?_
    refine k_V X2 hx hby hZ hown (wh hw 55 rfl) (wh hw 56 rfl) (wh hw 58 rfl) (wh hw 57 rfl) (W := 1) (own_coder0 l Z a0 hw [] xa h0 n0 O0 gz gfm gwC gwM G Ds1) (wh hw 59 rfl) (wh hw 6 rfl) e2 Es1  hml (argsL := []) (rest := [.int 3]) own_pd_9 d11_6 (fun _ T4 L4 X4 hQ4 => ?_)
    obtain ⟨Nc4, e4, rfl⟩ := hQ4
    have N4 := Fr.app N0 Nc4
    refine gg (fun t k => XS.ishr X4.here hx rfl (hb hby d11_9) rfl k) ?_
    show own_Goes p e below (T4.setTop (mkF m 10 #[vR xa] [(.int ((3 : Int32) >>> ((0 : Int32) &&& 31)))])) _
    rw [show ((3 : Int32) >>> ((0 : Int32) &&& 31)) = (3 : Int32) from by decide]
    refine r_I X4 hx hby hret hlk d11_10 e4 ?_
    exact ⟨N4, rfl, rfl⟩
  · have Bs1 : Arv Z h0 xt kbs1 .byte (6 : Int32) [(.int (c0.toInt8.toInt32)), (.int ((c0 >>> ((8 : Int32) &&& 31)).toInt8.toInt32)), (.int (c1.toInt8.toInt32)), (.int ((c1 >>> ((8 : Int32) &&& 31)).toInt8.toInt32)), (.int (c2.toInt8.toInt32)), (.int ((c2 >>> ((8 : Int32) &&& 31)).toInt8.toInt32))] (.int 0) := As1
    have Ds1 : Fld Z h0 xa "java/lang/String" "coder" "B" (.int 1) := Cs1
    show own_Goes p e below (s₁.setTop (mkF m 0 #[vR xa] [])) _
    refine q_aloadN X0 hx hby d11_0 rfl rfl ?_
    refine qG X0 hx hby hZ hown (wh hw 24 rfl) e0 Vs1 d11_1 (fun T5 X5 e5 => ?_)
    refine q_len X5 hx hby hZ e5 Bs1 d11_4 ?_
    refine q_aloadN X5 hx hby d11_5 rfl rfl ?_
    refine k_V X5 hx hby hZ hown (wh hw 55 rfl) (wh hw 56 rfl) (wh hw 58 rfl) (wh hw 57 rfl) (W := 1) (own_coder1 l Z a0 hw [] xa h0 n0 O0 gz gfm gwC gwM G Ds1) (wh hw 59 rfl) (wh hw 6 rfl) e5 Es1  hml (argsL := []) (rest := [.int 6]) own_pd_9 d11_6 (fun _ T7 L7 X7 hQ7 => ?_)
    obtain ⟨Nc7, e7, rfl⟩ := hQ7
    have N7 := Fr.app N0 Nc7
    refine gg (fun t k => XS.ishr X7.here hx rfl (hb hby d11_9) rfl k) ?_
    show own_Goes p e below (T7.setTop (mkF m 10 #[vR xa] [(.int ((6 : Int32) >>> ((1 : Int32) &&& 31)))])) _
    rw [show ((6 : Int32) >>> ((1 : Int32) &&& 31)) = (3 : Int32) from by decide]
    refine r_I X7 hx hby hret hlk d11_10 e7 ?_
    exact ⟨N7, rfl, rfl⟩
theorem d14_0 : decode B14 0 = .ok (.getstatic 38, 3) := by decide +kernel
theorem d14_3 : decode B14 3 = .ok (.ifCond .eq 14, 3) := by decide +kernel
theorem d14_6 : decode B14 6 = .ok (.aload_n 0, 1) := by decide +kernel
theorem d14_7 : decode B14 7 = .ok (.getfield 15, 3) := by decide +kernel
theorem d14_10 : decode B14 10 = .ok (.ifCond .ne 7, 3) := by decide +kernel
theorem d14_13 : decode B14 13 = .ok (.iconst 1, 1) := by decide +kernel
theorem d14_14 : decode B14 14 = .ok (.goto 4, 3) := by decide +kernel
theorem d14_18 : decode B14 18 = .ok (.ireturn, 1) := by decide +kernel
theorem own_ef_own_isL0 (m : MethodId) (xa : Addr) : entryFrame m #[.ref xa] 1 = mkF m 0 #[vR xa] [] := by first | (simp [entryFrame, mkF, argsToLocals, Value.category]; done) | rfl
def Q_own_isL0 (Z : State) (xa : Addr) (gz : Int32) (gfm : Value) (gwC : Addr) (gwM : Addr) (h0 : Heap) (n0 : Nat) (v : Option Value) (h : Heap) (L : List Loc) : Prop := Fr n0 L ∧ h = h0 ∧ v = some (.int 1)
theorem own_isL0 (l : Launch) (Z : State) (a0 : Array Value) (hw : ∀ d ∈ tables_1, d.before a0 Z = true) (ws : List Jvm.Cond) (xa : Addr) (h0 : Heap) (n0 : Nat) (O0 : Old Z n0 h0) (gz : Int32) (gfm : Value) (gwC : Addr) (gwM : Addr) (G : GG Z gz gfm gwC gwM) (P0 : Fld Z h0 xa "java/lang/String" "coder" "B" (.int 0)) : own_Met l Z (⟨"java/lang/String", "isLatin1", "()Z"⟩ : MethodName) jdk_42_method_154_code 1 (some .boolean) ws ({ frames := 0, cells := 0, slots := 0, locals := 0 } : Room) #[.ref xa] h0 (Q_own_isL0 Z xa gz gfm gwC gwM h0 n0) := by
  refine own_mk (plainFor_of_name own_pn_java_lang_String) O0 ?_
  intro p e s m below meth c s₁ hx hby hml hZ hown hnm hlk hret X0 e0 N0 z0 z1
  refine own_cast (own_ef_own_isL0 m xa) ?_
  show own_Goes p e below (s₁.setTop (mkF m 0 #[vR xa] [])) _
  obtain ⟨G0, G1, G2, G3, G4, G5, G6, G7, G8, G9, G10, G11⟩ := id G
  have ltG8 : @LT.lt Nat _ gwC Z.heap.size := G8.lt
  have ltG10 : @LT.lt Nat _ gwM Z.heap.size := G10.lt
  have q1 := G0.ext O0.2
  refine qS X0 hx hby hZ hown (host := "") (Or.inl (wh hw 26 rfl)) Via.refl e0 q1 d14_0 (fun T2 X2 e2 => ?_)
  refine q_ifNo X2 hx hby d14_3 ((if0 _ _).trans (feq (show ¬ (gz = (0 : Int32)) from G1)).1) ?_
  refine q_aloadN X2 hx hby d14_6 rfl rfl ?_
  refine qG X2 hx hby hZ hown (wh hw 25 rfl) e2 P0 d14_7 (fun T3 X3 e3 => ?_)
  refine q_ifNo X3 hx hby d14_10 ((if0 _ _).trans (teq (show ((0 : Int32) = (0 : Int32)) from by decide)).2) ?_
  refine q_iconst X3 hx hby d14_13 ?_
  refine q_goto (pc := 14) X3 hx hby d14_14 (pc' := 18) (by decide) (by decide) ?_
  refine r_Z X3 hx hby hret hlk d14_18 e3 ?_
  exact ⟨N0, rfl, rfl⟩
theorem d14_17 : decode B14 17 = .ok (.iconst 0, 1) := by decide +kernel
theorem own_ef_own_isL1 (m : MethodId) (xa : Addr) : entryFrame m #[.ref xa] 1 = mkF m 0 #[vR xa] [] := by first | (simp [entryFrame, mkF, argsToLocals, Value.category]; done) | rfl
def Q_own_isL1 (Z : State) (xa : Addr) (gz : Int32) (gfm : Value) (gwC : Addr) (gwM : Addr) (h0 : Heap) (n0 : Nat) (v : Option Value) (h : Heap) (L : List Loc) : Prop := Fr n0 L ∧ h = h0 ∧ v = some (.int 0)
theorem own_isL1 (l : Launch) (Z : State) (a0 : Array Value) (hw : ∀ d ∈ tables_1, d.before a0 Z = true) (ws : List Jvm.Cond) (xa : Addr) (h0 : Heap) (n0 : Nat) (O0 : Old Z n0 h0) (gz : Int32) (gfm : Value) (gwC : Addr) (gwM : Addr) (G : GG Z gz gfm gwC gwM) (P0 : Fld Z h0 xa "java/lang/String" "coder" "B" (.int 1)) : own_Met l Z (⟨"java/lang/String", "isLatin1", "()Z"⟩ : MethodName) jdk_42_method_154_code 1 (some .boolean) ws ({ frames := 0, cells := 0, slots := 0, locals := 0 } : Room) #[.ref xa] h0 (Q_own_isL1 Z xa gz gfm gwC gwM h0 n0) := by
  refine own_mk (plainFor_of_name own_pn_java_lang_String) O0 ?_
  intro p e s m below meth c s₁ hx hby hml hZ hown hnm hlk hret X0 e0 N0 z0 z1
  refine own_cast (own_ef_own_isL1 m xa) ?_
  show own_Goes p e below (s₁.setTop (mkF m 0 #[vR xa] [])) _
  obtain ⟨G0, G1, G2, G3, G4, G5, G6, G7, G8, G9, G10, G11⟩ := id G
  have ltG8 : @LT.lt Nat _ gwC Z.heap.size := G8.lt
  have ltG10 : @LT.lt Nat _ gwM Z.heap.size := G10.lt
  have q1 := G0.ext O0.2
  refine qS X0 hx hby hZ hown (host := "") (Or.inl (wh hw 26 rfl)) Via.refl e0 q1 d14_0 (fun T2 X2 e2 => ?_)
  refine q_ifNo X2 hx hby d14_3 ((if0 _ _).trans (feq (show ¬ (gz = (0 : Int32)) from G1)).1) ?_
  refine q_aloadN X2 hx hby d14_6 rfl rfl ?_
  refine qG X2 hx hby hZ hown (wh hw 25 rfl) e2 P0 d14_7 (fun T3 X3 e3 => ?_)
  refine q_ifYes (pc := 10) X3 hx hby d14_10 (pc' := 17) ((if0 _ _).trans (feq (show ¬ ((1 : Int32) = (0 : Int32)) from by decide)).2) (by decide) (by decide) ?_
  refine q_iconst X3 hx hby d14_17 ?_
  refine r_Z X3 hx hby hret hlk d14_18 e3 ?_
  exact ⟨N0, rfl, rfl⟩
theorem d17_0 : decode B17 0 = .ok (.iload_n 0, 1) := by decide +kernel
theorem d17_1 : decode B17 1 = .ok (.ifCond .lt 8, 3) := by decide +kernel
theorem d17_4 : decode B17 4 = .ok (.iload_n 0, 1) := by decide +kernel
theorem d17_5 : decode B17 5 = .ok (.iload_n 1, 1) := by decide +kernel
theorem d17_6 : decode B17 6 = .ok (.if_icmp .lt 10, 3) := by decide +kernel
theorem d17_16 : decode B17 16 = .ok (.iload_n 0, 1) := by decide +kernel
theorem d17_17 : decode B17 17 = .ok (.ireturn, 1) := by decide +kernel
theorem own_pn_jdk_internal_util_Preconditions : plainName "jdk/internal/util/Preconditions" = true := by first | (simp [plainName, overriddenIn]; done) | decide +kernel
theorem own_ef_own_pci (m : MethodId) (xi : Int32) (xj : Int32) (xf : Value) (hr_xf : xf.isRef = true) : entryFrame m #[.int xi, .int xj, xf] 3 = mkF m 0 #[vI xi, vI xj, .val xf] [] := by rcases ref_cases hr_xf with rfl | ⟨_, rfl⟩ <;> first | (simp [entryFrame, mkF, argsToLocals, Value.category]; done) | rfl
def Q_own_pci (Z : State) (xi : Int32) (xj : Int32) (xf : Value) (h0 : Heap) (n0 : Nat) (v : Option Value) (h : Heap) (L : List Loc) : Prop := Fr n0 L ∧ h = h0 ∧ v = some (.int xi)
theorem own_pci (l : Launch) (Z : State) (a0 : Array Value) (hw : ∀ d ∈ tables_1, d.before a0 Z = true) (ws : List Jvm.Cond) (xi : Int32) (xj : Int32) (xf : Value) (h0 : Heap) (n0 : Nat) (O0 : Old Z n0 h0) (P0 : xf.isRef = true) (P1 : ¬ xi < (0 : Int32)) (P2 : xi < xj) : own_Met l Z (⟨"jdk/internal/util/Preconditions", "checkIndex", "(IILjava/util/function/BiFunction;)I"⟩ : MethodName) jdk_41_method_11_code 3 (some .int) ws ({ frames := 0, cells := 0, slots := 0, locals := 0 } : Room) #[.int xi, .int xj, xf] h0 (Q_own_pci Z xi xj xf h0 n0) := by
  refine own_mk (plainFor_of_name own_pn_jdk_internal_util_Preconditions) O0 ?_
  intro p e s m below meth c s₁ hx hby hml hZ hown hnm hlk hret X0 e0 N0 z0 z1
  refine own_cast (own_ef_own_pci m xi xj xf P0) ?_
  show own_Goes p e below (s₁.setTop (mkF m 0 #[vI xi, vI xj, .val xf] [])) _
  refine q_iloadN X0 hx hby d17_0 rfl ?_
  refine q_ifNo X0 hx hby d17_1 ((if0 _ _).trans (flt (show ¬ (xi < (0 : Int32)) from P1)).1) ?_
  refine q_iloadN X0 hx hby d17_4 rfl ?_
  refine q_iloadN X0 hx hby d17_5 rfl ?_
  refine q_icmpYes (pc := 6) X0 hx hby d17_6 (pc' := 16) (tlt (show (xi < xj) from P2)).1 (by decide) (by decide) ?_
  refine q_iloadN X0 hx hby d17_16 rfl ?_
  refine r_I X0 hx hby hret hlk d17_17 e0 ?_
  exact ⟨N0, rfl, rfl⟩
theorem d16_0 : decode B16 0 = .ok (.iload_n 0, 1) := by decide +kernel
theorem d16_1 : decode B16 1 = .ok (.iload_n 1, 1) := by decide +kernel
theorem d16_2 : decode B16 2 = .ok (.getstatic 1053, 3) := by decide +kernel
theorem d16_5 : decode B16 5 = .ok (.invokestatic 1059, 3) := by decide +kernel
theorem own_pd_10 : parseMethodDescriptor "(IILjava/util/function/BiFunction;)I" = some ⟨[.int, .int, (.object "java/util/function/BiFunction")], some .int⟩ := by decide +kernel
theorem d16_8 : decode B16 8 = .ok (.pop, 1) := by decide +kernel
theorem d16_9 : decode B16 9 = .ok (.return_, 1) := by decide +kernel
theorem own_ef_own_sci (m : MethodId) (xi : Int32) (xj : Int32) : entryFrame m #[.int xi, .int xj] 2 = mkF m 0 #[vI xi, vI xj] [] := by first | (simp [entryFrame, mkF, argsToLocals, Value.category]; done) | rfl
def Q_own_sci (Z : State) (xi : Int32) (xj : Int32) (gz : Int32) (gfm : Value) (gwC : Addr) (gwM : Addr) (h0 : Heap) (n0 : Nat) (v : Option Value) (h : Heap) (L : List Loc) : Prop := Fr n0 L ∧ h = h0 ∧ v = none
theorem own_sci (l : Launch) (Z : State) (a0 : Array Value) (hw : ∀ d ∈ tables_1, d.before a0 Z = true) (ws : List Jvm.Cond) (xi : Int32) (xj : Int32) (h0 : Heap) (n0 : Nat) (O0 : Old Z n0 h0) (gz : Int32) (gfm : Value) (gwC : Addr) (gwM : Addr) (G : GG Z gz gfm gwC gwM) (P0 : ¬ xi < (0 : Int32)) (P1 : xi < xj) : own_Met l Z (⟨"java/lang/String", "checkIndex", "(II)V"⟩ : MethodName) jdk_42_method_155_code 2 none ws ({ frames := 1, cells := 0, slots := 0, locals := 14 } : Room) #[.int xi, .int xj] h0 (Q_own_sci Z xi xj gz gfm gwC gwM h0 n0) := by
  refine own_mk (plainFor_of_name own_pn_java_lang_String) O0 ?_
  intro p e s m below meth c s₁ hx hby hml hZ hown hnm hlk hret X0 e0 N0 z0 z1
  refine own_cast (own_ef_own_sci m xi xj) ?_
  show own_Goes p e below (s₁.setTop (mkF m 0 #[vI xi, vI xj] [])) _
  obtain ⟨G0, G1, G2, G3, G4, G5, G6, G7, G8, G9, G10, G11⟩ := id G
  have ltG8 : @LT.lt Nat _ gwC Z.heap.size := G8.lt
  have ltG10 : @LT.lt Nat _ gwM Z.heap.size := G10.lt
  refine q_iloadN X0 hx hby d16_0 rfl ?_
  refine q_iloadN X0 hx hby d16_1 rfl ?_
  have q1 := G5.ext O0.2
  refine qS X0 hx hby hZ hown (host := "") (Or.inl (wh hw 78 rfl)) Via.refl e0 q1 d16_2 (fun T2 X2 e2 => ?_)
  refine k_S X2 hx hby hZ hown (wh hw 80 rfl) (wh hw 81 rfl) (W := 0) (own_pci l Z a0 hw [] xi xj gfm h0 n0 O0 G6 (show ¬ xi < (0 : Int32) from (by first | assumption | decide)) (show xi < xj from (by first | assumption | decide))) (wh hw 82 rfl) (wh hw 79 rfl) e2  hml (argsL := [.int xi, .int xj, gfm]) (rest := []) own_pd_10 d16_5 (fun _ T3 L3 X3 hQ3 => ?_)
  obtain ⟨Nc3, e3, rfl⟩ := hQ3
  have N3 := Fr.app N0 Nc3
  refine gg (fun t k => XS.pop X3.here hx rfl (hb hby d16_8) rfl rfl k) ?_
  refine r_V X3 hx hby hret hlk d16_9 e3 ?_
  exact ⟨N3, rfl, rfl⟩
theorem d35_0 : decode B35 0 = .ok (.aload_n 0, 1) := by decide +kernel
theorem d35_1 : decode B35 1 = .ok (.arraylength, 1) := by decide +kernel
theorem d35_2 : decode B35 2 = .ok (.iconst 1, 1) := by decide +kernel
theorem d35_3 : decode B35 3 = .ok (.ishr, 1) := by decide +kernel
theorem d35_4 : decode B35 4 = .ok (.ireturn, 1) := by decide +kernel
theorem own_ef_own_ul1 (m : MethodId) (xb : Addr) : entryFrame m #[.ref xb] 1 = mkF m 0 #[vR xb] [] := by first | (simp [entryFrame, mkF, argsToLocals, Value.category]; done) | rfl
def Q_own_ul1 (Z : State) (xb : Addr) (xq : ClassId) (y0 : Int32) (y1 : Int32) (h0 : Heap) (n0 : Nat) (v : Option Value) (h : Heap) (L : List Loc) : Prop := Fr n0 L ∧ h = h0 ∧ v = some (.int 1)
theorem own_ul1 (l : Launch) (Z : State) (a0 : Array Value) (hw : ∀ d ∈ tables_1, d.before a0 Z = true) (ws : List Jvm.Cond) (xb : Addr) (xq : ClassId) (y0 : Int32) (y1 : Int32) (h0 : Heap) (n0 : Nat) (O0 : Old Z n0 h0) (P0 : Arv Z h0 xb xq .byte (2 : Int32) [.int y0, .int y1] (.int 0)) : own_Met l Z (⟨"java/lang/StringUTF16", "length", "([B)I"⟩ : MethodName) jdk_52_method_6_code 1 (some .int) ws ({ frames := 0, cells := 0, slots := 0, locals := 0 } : Room) #[.ref xb] h0 (Q_own_ul1 Z xb xq y0 y1 h0 n0) := by
  refine own_mk (plainFor_of_name own_pn_java_lang_StringUTF16) O0 ?_
  intro p e s m below meth c s₁ hx hby hml hZ hown hnm hlk hret X0 e0 N0 z0 z1
  refine own_cast (own_ef_own_ul1 m xb) ?_
  show own_Goes p e below (s₁.setTop (mkF m 0 #[vR xb] [])) _
  have ltP0 : @LT.lt Nat _ xb h0.size := P0.lt
  refine q_aloadN X0 hx hby d35_0 rfl rfl ?_
  refine q_len X0 hx hby hZ e0 P0 d35_1 ?_
  refine q_iconst X0 hx hby d35_2 ?_
  refine gg (fun t k => XS.ishr X0.here hx rfl (hb hby d35_3) rfl k) ?_
  show own_Goes p e below (s₁.setTop (mkF m 4 #[vR xb] [(.int ((2 : Int32) >>> ((1 : Int32) &&& 31)))])) _
  rw [show ((2 : Int32) >>> ((1 : Int32) &&& 31)) = (1 : Int32) from by decide]
  refine r_I X0 hx hby hret hlk d35_4 e0 ?_
  exact ⟨N0, rfl, rfl⟩
theorem d34_0 : decode B34 0 = .ok (.iload_n 0, 1) := by decide +kernel
theorem d34_1 : decode B34 1 = .ok (.aload_n 1, 1) := by decide +kernel
theorem d34_2 : decode B34 2 = .ok (.invokestatic 48, 3) := by decide +kernel
theorem own_pd_11 : parseMethodDescriptor "([B)I" = some ⟨[(.array .byte)], some .int⟩ := by decide +kernel
theorem d34_5 : decode B34 5 = .ok (.invokestatic 414, 3) := by decide +kernel
theorem own_pd_12 : parseMethodDescriptor "(II)V" = some ⟨[.int, .int], none⟩ := by decide +kernel
theorem d34_8 : decode B34 8 = .ok (.return_, 1) := by decide +kernel
theorem own_ef_own_uci1 (m : MethodId) (xi : Int32) (xb : Addr) : entryFrame m #[.int xi, .ref xb] 2 = mkF m 0 #[vI xi, vR xb] [] := by first | (simp [entryFrame, mkF, argsToLocals, Value.category]; done) | rfl
def Q_own_uci1 (Z : State) (xi : Int32) (xb : Addr) (xq : ClassId) (y0 : Int32) (y1 : Int32) (gz : Int32) (gfm : Value) (gwC : Addr) (gwM : Addr) (h0 : Heap) (n0 : Nat) (v : Option Value) (h : Heap) (L : List Loc) : Prop := Fr n0 L ∧ h = h0 ∧ v = none
theorem own_uci1 (l : Launch) (Z : State) (a0 : Array Value) (hw : ∀ d ∈ tables_1, d.before a0 Z = true) (ws : List Jvm.Cond) (xi : Int32) (xb : Addr) (xq : ClassId) (y0 : Int32) (y1 : Int32) (h0 : Heap) (n0 : Nat) (O0 : Old Z n0 h0) (gz : Int32) (gfm : Value) (gwC : Addr) (gwM : Addr) (G : GG Z gz gfm gwC gwM) (P0 : Arv Z h0 xb xq .byte (2 : Int32) [.int y0, .int y1] (.int 0)) (P1 : ¬ xi < (0 : Int32)) (P2 : xi < (1 : Int32)) : own_Met l Z (⟨"java/lang/StringUTF16", "checkIndex", "(I[B)V"⟩ : MethodName) jdk_52_method_91_code 2 none ws ({ frames := 2, cells := 0, slots := 0, locals := 27 } : Room) #[.int xi, .ref xb] h0 (Q_own_uci1 Z xi xb xq y0 y1 gz gfm gwC gwM h0 n0) := by
  refine own_mk (plainFor_of_name own_pn_java_lang_StringUTF16) O0 ?_
  intro p e s m below meth c s₁ hx hby hml hZ hown hnm hlk hret X0 e0 N0 z0 z1
  refine own_cast (own_ef_own_uci1 m xi xb) ?_
  show own_Goes p e below (s₁.setTop (mkF m 0 #[vI xi, vR xb] [])) _
  obtain ⟨G0, G1, G2, G3, G4, G5, G6, G7, G8, G9, G10, G11⟩ := id G
  have ltG8 : @LT.lt Nat _ gwC Z.heap.size := G8.lt
  have ltG10 : @LT.lt Nat _ gwM Z.heap.size := G10.lt
  have ltP0 : @LT.lt Nat _ xb h0.size := P0.lt
  refine q_iloadN X0 hx hby d34_0 rfl ?_
  refine q_aloadN X0 hx hby d34_1 rfl rfl ?_
  refine k_S X0 hx hby hZ hown (wh hw 177 rfl) (wh hw 178 rfl) (W := 1) (own_ul1 l Z a0 hw [] xb xq y0 y1 h0 n0 O0 P0) (wh hw 179 rfl) (wh hw 29 rfl) e0  hml (argsL := [.ref xb]) (rest := [.int xi]) own_pd_11 d34_2 (fun _ T1 L1 X1 hQ1 => ?_)
  obtain ⟨Nc1, e1, rfl⟩ := hQ1
  have N1 := Fr.app N0 Nc1
  refine k_S X1 hx hby hZ hown (wh hw 180 rfl) (wh hw 76 rfl) (W := 0) (own_sci l Z a0 hw [] xi (1 : Int32) h0 n0 O0 gz gfm gwC gwM G (show ¬ xi < (0 : Int32) from (by first | assumption | decide)) (show xi < (1 : Int32) from (by first | assumption | decide))) (wh hw 77 rfl) (wh hw 6 rfl) e1  hml (argsL := [.int xi, .int 1]) (rest := []) own_pd_12 d34_5 (fun _ T2 L2 X2 hQ2 => ?_)
  obtain ⟨Nc2, e2, rfl⟩ := hQ2
  have N2 := Fr.app N1 Nc2
  refine r_V X2 hx hby hret hlk d34_8 e2 ?_
  exact ⟨N2, rfl, rfl⟩
theorem d33_0 : decode B33 0 = .ok (.iload_n 1, 1) := by decide +kernel
theorem d33_1 : decode B33 1 = .ok (.aload_n 0, 1) := by decide +kernel
theorem d33_2 : decode B33 2 = .ok (.invokestatic 67, 3) := by decide +kernel
theorem own_pd_13 : parseMethodDescriptor "(I[B)V" = some ⟨[.int, (.array .byte)], none⟩ := by decide +kernel
theorem d33_5 : decode B33 5 = .ok (.aload_n 0, 1) := by decide +kernel
theorem d33_6 : decode B33 6 = .ok (.iload_n 1, 1) := by decide +kernel
theorem d33_7 : decode B33 7 = .ok (.invokestatic 71, 3) := by decide +kernel
theorem d33_10 : decode B33 10 = .ok (.ireturn, 1) := by decide +kernel
theorem own_ef_own_uca1_0 (m : MethodId) (xb : Addr) : entryFrame m #[.ref xb, .int 0] 2 = mkF m 0 #[vR xb, vI 0] [] := by first | (simp [entryFrame, mkF, argsToLocals, Value.category]; done) | rfl
def Q_own_uca1_0 (Z : State) (xb : Addr) (xq : ClassId) (y0 : Int32) (y1 : Int32) (gz : Int32) (gfm : Value) (gwC : Addr) (gwM : Addr) (h0 : Heap) (n0 : Nat) (v : Option Value) (h : Heap) (L : List Loc) : Prop := Fr n0 L ∧ h = h0 ∧ v = some (.int ((((y0 &&& (255 : Int32)) <<< ((0 : Int32) &&& 31)) ||| ((y1 &&& (255 : Int32)) <<< ((8 : Int32) &&& 31))).toUInt32.toUInt16.toUInt32.toInt32))
theorem own_uca1_0 (l : Launch) (Z : State) (a0 : Array Value) (hw : ∀ d ∈ tables_1, d.before a0 Z = true) (ws : List Jvm.Cond) (xb : Addr) (xq : ClassId) (y0 : Int32) (y1 : Int32) (h0 : Heap) (n0 : Nat) (O0 : Old Z n0 h0) (gz : Int32) (gfm : Value) (gwC : Addr) (gwM : Addr) (G : GG Z gz gfm gwC gwM) (P0 : Arv Z h0 xb xq .byte (2 : Int32) [.int y0, .int y1] (.int 0)) : own_Met l Z (⟨"java/lang/StringUTF16", "charAt", "([BI)C"⟩ : MethodName) jdk_52_method_83_code 2 (some .char) ws ({ frames := 3, cells := 0, slots := 0, locals := 40 } : Room) #[.ref xb, .int 0] h0 (Q_own_uca1_0 Z xb xq y0 y1 gz gfm gwC gwM h0 n0) := by
  refine own_mk (plainFor_of_name own_pn_java_lang_StringUTF16) O0 ?_
  intro p e s m below meth c s₁ hx hby hml hZ hown hnm hlk hret X0 e0 N0 z0 z1
  refine own_cast (own_ef_own_uca1_0 m xb) ?_
  show own_Goes p e below (s₁.setTop (mkF m 0 #[vR xb, vI 0] [])) _
  obtain ⟨G0, G1, G2, G3, G4, G5, G6, G7, G8, G9, G10, G11⟩ := id G
  have ltG8 : @LT.lt Nat _ gwC Z.heap.size := G8.lt
  have ltG10 : @LT.lt Nat _ gwM Z.heap.size := G10.lt
  have ltP0 : @LT.lt Nat _ xb h0.size := P0.lt
  refine q_iloadN X0 hx hby d33_0 rfl ?_
  refine q_aloadN X0 hx hby d33_1 rfl rfl ?_
  refine k_S X0 hx hby hZ hown (wh hw 174 rfl) (wh hw 175 rfl) (W := 0) (own_uci1 l Z a0 hw [] (0 : Int32) xb xq y0 y1 h0 n0 O0 gz gfm gwC gwM G P0 (show ¬ (0 : Int32) < (0 : Int32) from (by first | assumption | decide)) (show (0 : Int32) < (1 : Int32) from (by first | assumption | decide))) (wh hw 176 rfl) (wh hw 29 rfl) e0  hml (argsL := [.int 0, .ref xb]) (rest := []) own_pd_13 d33_2 (fun _ T1 L1 X1 hQ1 => ?_)
  obtain ⟨Nc1, e1, rfl⟩ := hQ1
  have N1 := Fr.app N0 Nc1
  refine q_aloadN X1 hx hby d33_5 rfl rfl ?_
  refine q_iloadN X1 hx hby d33_6 rfl ?_
  refine k_S X1 hx hby hZ hown (wh hw 168 rfl) (wh hw 169 rfl) (W := 0) (own_gc1_0 l Z a0 hw [] xb xq y0 y1 h0 n0 O0 gz gfm gwC gwM G P0) (wh hw 170 rfl) (wh hw 29 rfl) e1  hml (argsL := [.ref xb, .int 0]) (rest := []) own_pd_5 d33_7 (fun _ T2 L2 X2 hQ2 => ?_)
  obtain ⟨Nc2, e2, rfl⟩ := hQ2
  have N2 := Fr.app N1 Nc2
  refine r_C X2 hx hby hret hlk d33_10 e2 ?_ (hn := (own_narr16 (own_C16i _)))
  exact ⟨N2, rfl, rfl⟩
theorem d15_0 : decode B15 0 = .ok (.iload_n 1, 1) := by decide +kernel
theorem d15_1 : decode B15 1 = .ok (.aload_n 0, 1) := by decide +kernel
theorem d15_2 : decode B15 2 = .ok (.arraylength, 1) := by decide +kernel
theorem d15_3 : decode B15 3 = .ok (.invokestatic 9, 3) := by decide +kernel
theorem d15_6 : decode B15 6 = .ok (.aload_n 0, 1) := by decide +kernel
theorem d15_7 : decode B15 7 = .ok (.iload_n 1, 1) := by decide +kernel
theorem d15_8 : decode B15 8 = .ok (.baload, 1) := by decide +kernel
theorem d15_9 : decode B15 9 = .ok (.sipush 255, 3) := by decide +kernel
theorem d15_12 : decode B15 12 = .ok (.iand, 1) := by decide +kernel
theorem d15_13 : decode B15 13 = .ok (.i2c, 1) := by decide +kernel
theorem d15_14 : decode B15 14 = .ok (.ireturn, 1) := by decide +kernel
theorem own_pn_java_lang_StringLatin1 : plainName "java/lang/StringLatin1" = true := by first | (simp [plainName, overriddenIn]; done) | decide +kernel
theorem own_ef_own_lca1_0 (m : MethodId) (xb : Addr) : entryFrame m #[.ref xb, .int 0] 2 = mkF m 0 #[vR xb, vI 0] [] := by first | (simp [entryFrame, mkF, argsToLocals, Value.category]; done) | rfl
def Q_own_lca1_0 (Z : State) (xb : Addr) (xq : ClassId) (y0 : Int32) (gz : Int32) (gfm : Value) (gwC : Addr) (gwM : Addr) (h0 : Heap) (n0 : Nat) (v : Option Value) (h : Heap) (L : List Loc) : Prop := Fr n0 L ∧ h = h0 ∧ v = some (.int (y0 &&& (255 : Int32)))
theorem own_lca1_0 (l : Launch) (Z : State) (a0 : Array Value) (hw : ∀ d ∈ tables_1, d.before a0 Z = true) (ws : List Jvm.Cond) (xb : Addr) (xq : ClassId) (y0 : Int32) (h0 : Heap) (n0 : Nat) (O0 : Old Z n0 h0) (gz : Int32) (gfm : Value) (gwC : Addr) (gwM : Addr) (G : GG Z gz gfm gwC gwM) (P0 : Arv Z h0 xb xq .byte (1 : Int32) [.int y0] (.int 0)) : own_Met l Z (⟨"java/lang/StringLatin1", "charAt", "([BI)C"⟩ : MethodName) jdk_43_method_2_code 2 (some .char) ws ({ frames := 2, cells := 0, slots := 0, locals := 27 } : Room) #[.ref xb, .int 0] h0 (Q_own_lca1_0 Z xb xq y0 gz gfm gwC gwM h0 n0) := by
  refine own_mk (plainFor_of_name own_pn_java_lang_StringLatin1) O0 ?_
  intro p e s m below meth c s₁ hx hby hml hZ hown hnm hlk hret X0 e0 N0 z0 z1
  refine own_cast (own_ef_own_lca1_0 m xb) ?_
  show own_Goes p e below (s₁.setTop (mkF m 0 #[vR xb, vI 0] [])) _
  obtain ⟨G0, G1, G2, G3, G4, G5, G6, G7, G8, G9, G10, G11⟩ := id G
  have ltG8 : @LT.lt Nat _ gwC Z.heap.size := G8.lt
  have ltG10 : @LT.lt Nat _ gwM Z.heap.size := G10.lt
  have ltP0 : @LT.lt Nat _ xb h0.size := P0.lt
  refine q_iloadN X0 hx hby d15_0 rfl ?_
  refine q_aloadN X0 hx hby d15_1 rfl rfl ?_
  refine q_len X0 hx hby hZ e0 P0 d15_2 ?_
  refine k_S X0 hx hby hZ hown (wh hw 75 rfl) (wh hw 76 rfl) (W := 0) (own_sci l Z a0 hw [] (0 : Int32) (1 : Int32) h0 n0 O0 gz gfm gwC gwM G (show ¬ (0 : Int32) < (0 : Int32) from (by first | assumption | decide)) (show (0 : Int32) < (1 : Int32) from (by first | assumption | decide))) (wh hw 77 rfl) (wh hw 6 rfl) e0  hml (argsL := [.int 0, .int 1]) (rest := []) own_pd_12 d15_3 (fun _ T2 L2 X2 hQ2 => ?_)
  obtain ⟨Nc2, e2, rfl⟩ := hQ2
  have N2 := Fr.app N0 Nc2
  refine q_aloadN X2 hx hby d15_6 rfl rfl ?_
  refine q_iloadN X2 hx hby d15_7 rfl ?_
  refine q_baloadBytes X2 hx hby hZ e2 P0 d15_8 (.int y0) ?_
  refine q_sipush X2 hx hby d15_9 ?_
  refine q_iand X2 hx hby d15_12 ?_
  refine gg (fun t k => XS.i2c X2.here hx rfl (hb hby d15_13) rfl k) ?_
  show own_Goes p e below (T2.setTop (mkF m 14 #[vR xb, vI 0] [(.int ((y0 &&& (255 : Int32)).toUInt32.toUInt16.toUInt32.toInt32))])) _
  rw [i2c_mask]
  show own_Goes p e below (T2.setTop (mkF m 14 #[vR xb, vI 0] [(.int (y0 &&& (255 : Int32)))])) _
  refine r_C X2 hx hby hret hlk d15_14 e2 ?_ (hn := (congrArg Value.int (i2c_mask _)))
  exact ⟨N2, rfl, rfl⟩
theorem d13_0 : decode B13 0 = .ok (.aload_n 0, 1) := by decide +kernel
theorem d13_1 : decode B13 1 = .ok (.invokevirtual 492, 3) := by decide +kernel
theorem own_pd_14 : parseMethodDescriptor "()Z" = some ⟨[], some .boolean⟩ := by decide +kernel
theorem d13_4 : decode B13 4 = .ok (.ifCond .eq 12, 3) := by decide +kernel
theorem d13_7 : decode B13 7 = .ok (.aload_n 0, 1) := by decide +kernel
theorem d13_8 : decode B13 8 = .ok (.getfield 9, 3) := by decide +kernel
theorem d13_11 : decode B13 11 = .ok (.iload_n 1, 1) := by decide +kernel
theorem d13_12 : decode B13 12 = .ok (.invokestatic 495, 3) := by decide +kernel
theorem d13_15 : decode B13 15 = .ok (.ireturn, 1) := by decide +kernel
theorem d13_16 : decode B13 16 = .ok (.aload_n 0, 1) := by decide +kernel
theorem d13_17 : decode B13 17 = .ok (.getfield 9, 3) := by decide +kernel
theorem d13_20 : decode B13 20 = .ok (.iload_n 1, 1) := by decide +kernel
theorem d13_21 : decode B13 21 = .ok (.invokestatic 498, 3) := by decide +kernel
theorem d13_24 : decode B13 24 = .ok (.ireturn, 1) := by decide +kernel
theorem own_ef_own_ca1_0 (m : MethodId) (xa : Addr) : entryFrame m #[.ref xa, .int 0] 2 = mkF m 0 #[vR xa, vI 0] [] := by first | (simp [entryFrame, mkF, argsToLocals, Value.category]; done) | rfl
def Q_own_ca1_0 (Z : State) (xa : Addr) (xt : Addr) (c0 : Int32) (gz : Int32) (gfm : Value) (gwC : Addr) (gwM : Addr) (h0 : Heap) (n0 : Nat) (v : Option Value) (h : Heap) (L : List Loc) : Prop := Fr n0 L ∧ h = h0 ∧ v = some (.int c0)
theorem own_ca1_0 (l : Launch) (Z : State) (a0 : Array Value) (hw : ∀ d ∈ tables_1, d.before a0 Z = true) (ws : List Jvm.Cond) (xa : Addr) (xt : Addr) (c0 : Int32) (h0 : Heap) (n0 : Nat) (O0 : Old Z n0 h0) (gz : Int32) (gfm : Value) (gwC : Addr) (gwM : Addr) (G : GG Z gz gfm gwC gwM) (P0 : own_Str Z h0 xa xt ([c0] : List Int32)) : own_Met l Z (⟨"java/lang/String", "charAt", "(I)C"⟩ : MethodName) jdk_42_method_56_code 2 (some .char) ws ({ frames := 4, cells := 0, slots := 0, locals := 53 } : Room) #[.ref xa, .int 0] h0 (Q_own_ca1_0 Z xa xt c0 gz gfm gwC gwM h0 n0) := by
  refine own_mk (plainFor_of_name own_pn_java_lang_String) O0 ?_
  intro p e s m below meth c s₁ hx hby hml hZ hown hnm hlk hret X0 e0 N0 z0 z1
  refine own_cast (own_ef_own_ca1_0 m xa) ?_
  show own_Goes p e below (s₁.setTop (mkF m 0 #[vR xa, vI 0] [])) _
  obtain ⟨G0, G1, G2, G3, G4, G5, G6, G7, G8, G9, G10, G11⟩ := id G
  have ltG8 : @LT.lt Nat _ gwC Z.heap.size := G8.lt
  have ltG10 : @LT.lt Nat _ gwM Z.heap.size := G10.lt
  have ltP0 : @LT.lt Nat _ xa h0.size := P0.1.lt
  have luP0 : @LT.lt Nat _ xt h0.size := P0.lt2
  obtain ⟨Es1, Vs1, kbs1, cds1, Ns1, vss1, Cs1, As1, hCs1, hbs1, hls1⟩ := id P0
  rcases hCs1 with ⟨rfl, rfl, rfl, hLs1⟩ | ⟨rfl, rfl, rfl, hWs1⟩
  · have Bs1 : Arv Z h0 xt kbs1 .byte (1 : Int32) [(.int (c0.toInt8.toInt32))] (.int 0) := As1
    have Ds1 : Fld Z h0 xa "java/lang/String" "coder" "B" (.int 0) := Cs1
    show own_Goes p e below (s₁.setTop (mkF m 0 #[vR xa, vI 0] [])) _
    refine q_aloadN X0 hx hby d13_0 rfl rfl ?_
    refine k_V X0 hx hby hZ hown (wh hw 66 rfl) (wh hw 67 rfl) (wh hw 69 rfl) (wh hw 68 rfl) (W := 0) (own_isL0 l Z a0 hw [] xa h0 n0 O0 gz gfm gwC gwM G Ds1) (wh hw 70 rfl) (wh hw 6 rfl) e0 Es1  hml (argsL := []) (rest := []) own_pd_14 d13_1 (fun _ T2 L2 X2 hQ2 => ?_)
    obtain ⟨Nc2, e2, rfl⟩ := hQ2
    have N2 := Fr.app N0 Nc2
    refine q_ifNo X2 hx hby d13_4 ((if0 _ _).trans (feq (show ¬ ((1 : Int32) = (0 : Int32)) from by decide)).1) ?_
    refine q_aloadN X2 hx hby d13_7 rfl rfl ?_
    refine qG X2 hx hby hZ hown (wh hw 24 rfl) e2 Vs1 d13_8 (fun T3 X3 e3 => ?_)
    refine q_iloadN X3 hx hby d13_11 rfl ?_
    refine k_S X3 hx hby hZ hown (wh hw 71 rfl) (wh hw 72 rfl) (W := 0) (own_lca1_0 l Z a0 hw [] xt kbs1 (c0.toInt8.toInt32) h0 n0 O0 gz gfm gwC gwM G Bs1) (wh hw 74 rfl) (wh hw 73 rfl) e3  hml (argsL := [.ref xt, .int 0]) (rest := []) own_pd_5 d13_12 (fun _ T4 L4 X4 hQ4 => ?_)
    obtain ⟨Nc4, e4, rfl⟩ := hQ4
    have N4 := Fr.app N2 Nc4
    show own_Goes p e below (T4.setTop (mkF m 15 #[vR xa, vI 0] [(.int ((c0.toInt8.toInt32) &&& (255 : Int32)))])) _
    rw [show ((c0.toInt8.toInt32) &&& (255 : Int32)) = c0 from own_b8 (hbs1 c0 (by simp)) (hLs1 c0 (by simp))]
    refine r_C X4 hx hby hret hlk d13_15 e4 ?_ (hn := (own_narr16 (hbs1 c0 (by simp))))
    exact ⟨N4, rfl, rfl⟩
  · have Bs1 : Arv Z h0 xt kbs1 .byte (2 : Int32) [(.int (c0.toInt8.toInt32)), (.int ((c0 >>> ((8 : Int32) &&& 31)).toInt8.toInt32))] (.int 0) := As1
    have Ds1 : Fld Z h0 xa "java/lang/String" "coder" "B" (.int 1) := Cs1
    show own_Goes p e below (s₁.setTop (mkF m 0 #[vR xa, vI 0] [])) _
    refine q_aloadN X0 hx hby d13_0 rfl rfl ?_
    refine k_V X0 hx hby hZ hown (wh hw 66 rfl) (wh hw 67 rfl) (wh hw 69 rfl) (wh hw 68 rfl) (W := 0) (own_isL1 l Z a0 hw [] xa h0 n0 O0 gz gfm gwC gwM G Ds1) (wh hw 70 rfl) (wh hw 6 rfl) e0 Es1  hml (argsL := []) (rest := []) own_pd_14 d13_1 (fun _ T5 L5 X5 hQ5 => ?_)
    obtain ⟨Nc5, e5, rfl⟩ := hQ5
    have N5 := Fr.app N0 Nc5
    refine q_ifYes (pc := 4) X5 hx hby d13_4 (pc' := 16) ((if0 _ _).trans (teq (show ((0 : Int32) = (0 : Int32)) from by decide)).1) (by decide) (by decide) ?_
    refine q_aloadN X5 hx hby d13_16 rfl rfl ?_
    refine qG X5 hx hby hZ hown (wh hw 24 rfl) e5 Vs1 d13_17 (fun T6 X6 e6 => ?_)
    refine q_iloadN X6 hx hby d13_20 rfl ?_
    refine k_S X6 hx hby hZ hown (wh hw 171 rfl) (wh hw 172 rfl) (W := 0) (own_uca1_0 l Z a0 hw [] xt kbs1 (c0.toInt8.toInt32) ((c0 >>> ((8 : Int32) &&& 31)).toInt8.toInt32) h0 n0 O0 gz gfm gwC gwM G Bs1) (wh hw 173 rfl) (wh hw 29 rfl) e6  hml (argsL := [.ref xt, .int 0]) (rest := []) own_pd_5 d13_21 (fun _ T7 L7 X7 hQ7 => ?_)
    obtain ⟨Nc7, e7, rfl⟩ := hQ7
    have N7 := Fr.app N5 Nc7
    show own_Goes p e below (T7.setTop (mkF m 24 #[vR xa, vI 0] [(.int (((((c0.toInt8.toInt32) &&& (255 : Int32)) <<< ((0 : Int32) &&& 31)) ||| ((((c0 >>> ((8 : Int32) &&& 31)).toInt8.toInt32) &&& (255 : Int32)) <<< ((8 : Int32) &&& 31))).toUInt32.toUInt16.toUInt32.toInt32))])) _
    rw [show (((((c0.toInt8.toInt32) &&& (255 : Int32)) <<< ((0 : Int32) &&& 31)) ||| ((((c0 >>> ((8 : Int32) &&& 31)).toInt8.toInt32) &&& (255 : Int32)) <<< ((8 : Int32) &&& 31))).toUInt32.toUInt16.toUInt32.toInt32) = c0 from own_g16 (hbs1 c0 (by simp))]
    refine r_C X7 hx hby hret hlk d13_24 e7 ?_ (hn := (own_narr16 (hbs1 c0 (by simp))))
    exact ⟨N7, rfl, rfl⟩
theorem own_ef_own_ul2 (m : MethodId) (xb : Addr) : entryFrame m #[.ref xb] 1 = mkF m 0 #[vR xb] [] := by first | (simp [entryFrame, mkF, argsToLocals, Value.category]; done) | rfl
def Q_own_ul2 (Z : State) (xb : Addr) (xq : ClassId) (y0 : Int32) (y1 : Int32) (y2 : Int32) (y3 : Int32) (h0 : Heap) (n0 : Nat) (v : Option Value) (h : Heap) (L : List Loc) : Prop := Fr n0 L ∧ h = h0 ∧ v = some (.int 2)
theorem own_ul2 (l : Launch) (Z : State) (a0 : Array Value) (hw : ∀ d ∈ tables_1, d.before a0 Z = true) (ws : List Jvm.Cond) (xb : Addr) (xq : ClassId) (y0 : Int32) (y1 : Int32) (y2 : Int32) (y3 : Int32) (h0 : Heap) (n0 : Nat) (O0 : Old Z n0 h0) (P0 : Arv Z h0 xb xq .byte (4 : Int32) [.int y0, .int y1, .int y2, .int y3] (.int 0)) : own_Met l Z (⟨"java/lang/StringUTF16", "length", "([B)I"⟩ : MethodName) jdk_52_method_6_code 1 (some .int) ws ({ frames := 0, cells := 0, slots := 0, locals := 0 } : Room) #[.ref xb] h0 (Q_own_ul2 Z xb xq y0 y1 y2 y3 h0 n0) := by
  refine own_mk (plainFor_of_name own_pn_java_lang_StringUTF16) O0 ?_
  intro p e s m below meth c s₁ hx hby hml hZ hown hnm hlk hret X0 e0 N0 z0 z1
  refine own_cast (own_ef_own_ul2 m xb) ?_
  show own_Goes p e below (s₁.setTop (mkF m 0 #[vR xb] [])) _
  have ltP0 : @LT.lt Nat _ xb h0.size := P0.lt
  refine q_aloadN X0 hx hby d35_0 rfl rfl ?_
  refine q_len X0 hx hby hZ e0 P0 d35_1 ?_
  refine q_iconst X0 hx hby d35_2 ?_
  refine gg (fun t k => XS.ishr X0.here hx rfl (hb hby d35_3) rfl k) ?_
  show own_Goes p e below (s₁.setTop (mkF m 4 #[vR xb] [(.int ((4 : Int32) >>> ((1 : Int32) &&& 31)))])) _
  rw [show ((4 : Int32) >>> ((1 : Int32) &&& 31)) = (2 : Int32) from by decide]
  refine r_I X0 hx hby hret hlk d35_4 e0 ?_
  exact ⟨N0, rfl, rfl⟩
theorem own_ef_own_uci2 (m : MethodId) (xi : Int32) (xb : Addr) : entryFrame m #[.int xi, .ref xb] 2 = mkF m 0 #[vI xi, vR xb] [] := by first | (simp [entryFrame, mkF, argsToLocals, Value.category]; done) | rfl
def Q_own_uci2 (Z : State) (xi : Int32) (xb : Addr) (xq : ClassId) (y0 : Int32) (y1 : Int32) (y2 : Int32) (y3 : Int32) (gz : Int32) (gfm : Value) (gwC : Addr) (gwM : Addr) (h0 : Heap) (n0 : Nat) (v : Option Value) (h : Heap) (L : List Loc) : Prop := Fr n0 L ∧ h = h0 ∧ v = none
theorem own_uci2 (l : Launch) (Z : State) (a0 : Array Value) (hw : ∀ d ∈ tables_1, d.before a0 Z = true) (ws : List Jvm.Cond) (xi : Int32) (xb : Addr) (xq : ClassId) (y0 : Int32) (y1 : Int32) (y2 : Int32) (y3 : Int32) (h0 : Heap) (n0 : Nat) (O0 : Old Z n0 h0) (gz : Int32) (gfm : Value) (gwC : Addr) (gwM : Addr) (G : GG Z gz gfm gwC gwM) (P0 : Arv Z h0 xb xq .byte (4 : Int32) [.int y0, .int y1, .int y2, .int y3] (.int 0)) (P1 : ¬ xi < (0 : Int32)) (P2 : xi < (2 : Int32)) : own_Met l Z (⟨"java/lang/StringUTF16", "checkIndex", "(I[B)V"⟩ : MethodName) jdk_52_method_91_code 2 none ws ({ frames := 2, cells := 0, slots := 0, locals := 27 } : Room) #[.int xi, .ref xb] h0 (Q_own_uci2 Z xi xb xq y0 y1 y2 y3 gz gfm gwC gwM h0 n0) := by
  refine own_mk (plainFor_of_name own_pn_java_lang_StringUTF16) O0 ?_
  intro p e s m below meth c s₁ hx hby hml hZ hown hnm hlk hret X0 e0 N0 z0 z1
  refine own_cast (own_ef_own_uci2 m xi xb) ?_
  show own_Goes p e below (s₁.setTop (mkF m 0 #[vI xi, vR xb] [])) _
  obtain ⟨G0, G1, G2, G3, G4, G5, G6, G7, G8, G9, G10, G11⟩ := id G
  have ltG8 : @LT.lt Nat _ gwC Z.heap.size := G8.lt
  have ltG10 : @LT.lt Nat _ gwM Z.heap.size := G10.lt
  have ltP0 : @LT.lt Nat _ xb h0.size := P0.lt
  refine q_iloadN X0 hx hby d34_0 rfl ?_
  refine q_aloadN X0 hx hby d34_1 rfl rfl ?_
  refine k_S X0 hx hby hZ hown (wh hw 177 rfl) (wh hw 178 rfl) (W := 1) (own_ul2 l Z a0 hw [] xb xq y0 y1 y2 y3 h0 n0 O0 P0) (wh hw 179 rfl) (wh hw 29 rfl) e0  hml (argsL := [.ref xb]) (rest := [.int xi]) own_pd_11 d34_2 (fun _ T1 L1 X1 hQ1 => ?_)
  obtain ⟨Nc1, e1, rfl⟩ := hQ1
  have N1 := Fr.app N0 Nc1
  refine k_S X1 hx hby hZ hown (wh hw 180 rfl) (wh hw 76 rfl) (W := 0) (own_sci l Z a0 hw [] xi (2 : Int32) h0 n0 O0 gz gfm gwC gwM G (show ¬ xi < (0 : Int32) from (by first | assumption | decide)) (show xi < (2 : Int32) from (by first | assumption | decide))) (wh hw 77 rfl) (wh hw 6 rfl) e1  hml (argsL := [.int xi, .int 2]) (rest := []) own_pd_12 d34_5 (fun _ T2 L2 X2 hQ2 => ?_)
  obtain ⟨Nc2, e2, rfl⟩ := hQ2
  have N2 := Fr.app N1 Nc2
  refine r_V X2 hx hby hret hlk d34_8 e2 ?_
  exact ⟨N2, rfl, rfl⟩
theorem own_ef_own_uca2_0 (m : MethodId) (xb : Addr) : entryFrame m #[.ref xb, .int 0] 2 = mkF m 0 #[vR xb, vI 0] [] := by first | (simp [entryFrame, mkF, argsToLocals, Value.category]; done) | rfl
def Q_own_uca2_0 (Z : State) (xb : Addr) (xq : ClassId) (y0 : Int32) (y1 : Int32) (y2 : Int32) (y3 : Int32) (gz : Int32) (gfm : Value) (gwC : Addr) (gwM : Addr) (h0 : Heap) (n0 : Nat) (v : Option Value) (h : Heap) (L : List Loc) : Prop := Fr n0 L ∧ h = h0 ∧ v = some (.int ((((y0 &&& (255 : Int32)) <<< ((0 : Int32) &&& 31)) ||| ((y1 &&& (255 : Int32)) <<< ((8 : Int32) &&& 31))).toUInt32.toUInt16.toUInt32.toInt32))
theorem own_uca2_0 (l : Launch) (Z : State) (a0 : Array Value) (hw : ∀ d ∈ tables_1, d.before a0 Z = true) (ws : List Jvm.Cond) (xb : Addr) (xq : ClassId) (y0 : Int32) (y1 : Int32) (y2 : Int32) (y3 : Int32) (h0 : Heap) (n0 : Nat) (O0 : Old Z n0 h0) (gz : Int32) (gfm : Value) (gwC : Addr) (gwM : Addr) (G : GG Z gz gfm gwC gwM) (P0 : Arv Z h0 xb xq .byte (4 : Int32) [.int y0, .int y1, .int y2, .int y3] (.int 0)) : own_Met l Z (⟨"java/lang/StringUTF16", "charAt", "([BI)C"⟩ : MethodName) jdk_52_method_83_code 2 (some .char) ws ({ frames := 3, cells := 0, slots := 0, locals := 40 } : Room) #[.ref xb, .int 0] h0 (Q_own_uca2_0 Z xb xq y0 y1 y2 y3 gz gfm gwC gwM h0 n0) := by
  refine own_mk (plainFor_of_name own_pn_java_lang_StringUTF16) O0 ?_
  intro p e s m below meth c s₁ hx hby hml hZ hown hnm hlk hret X0 e0 N0 z0 z1
  refine own_cast (own_ef_own_uca2_0 m xb) ?_
  show own_Goes p e below (s₁.setTop (mkF m 0 #[vR xb, vI 0] [])) _
  obtain ⟨G0, G1, G2, G3, G4, G5, G6, G7, G8, G9, G10, G11⟩ := id G
  have ltG8 : @LT.lt Nat _ gwC Z.heap.size := G8.lt
  have ltG10 : @LT.lt Nat _ gwM Z.heap.size := G10.lt
  have ltP0 : @LT.lt Nat _ xb h0.size := P0.lt
  refine q_iloadN X0 hx hby d33_0 rfl ?_
  refine q_aloadN X0 hx hby d33_1 rfl rfl ?_
  refine k_S X0 hx hby hZ hown (wh hw 174 rfl) (wh hw 175 rfl) (W := 0) (own_uci2 l Z a0 hw [] (0 : Int32) xb xq y0 y1 y2 y3 h0 n0 O0 gz gfm gwC gwM G P0 (show ¬ (0 : Int32) < (0 : Int32) from (by first | assumption | decide)) (show (0 : Int32) < (2 : Int32) from (by first | assumption | decide))) (wh hw 176 rfl) (wh hw 29 rfl) e0  hml (argsL := [.int 0, .ref xb]) (rest := []) own_pd_13 d33_2 (fun _ T1 L1 X1 hQ1 => ?_)
  obtain ⟨Nc1, e1, rfl⟩ := hQ1
  have N1 := Fr.app N0 Nc1
  refine q_aloadN X1 hx hby d33_5 rfl rfl ?_
  refine q_iloadN X1 hx hby d33_6 rfl ?_
  refine k_S X1 hx hby hZ hown (wh hw 168 rfl) (wh hw 169 rfl) (W := 0) (own_gc2_0 l Z a0 hw [] xb xq y0 y1 y2 y3 h0 n0 O0 gz gfm gwC gwM G P0) (wh hw 170 rfl) (wh hw 29 rfl) e1  hml (argsL := [.ref xb, .int 0]) (rest := []) own_pd_5 d33_7 (fun _ T2 L2 X2 hQ2 => ?_)
  obtain ⟨Nc2, e2, rfl⟩ := hQ2
  have N2 := Fr.app N1 Nc2
  refine r_C X2 hx hby hret hlk d33_10 e2 ?_ (hn := (own_narr16 (own_C16i _)))
  exact ⟨N2, rfl, rfl⟩
theorem own_ef_own_lca2_0 (m : MethodId) (xb : Addr) : entryFrame m #[.ref xb, .int 0] 2 = mkF m 0 #[vR xb, vI 0] [] := by first | (simp [entryFrame, mkF, argsToLocals, Value.category]; done) | rfl
def Q_own_lca2_0 (Z : State) (xb : Addr) (xq : ClassId) (y0 : Int32) (y1 : Int32) (gz : Int32) (gfm : Value) (gwC : Addr) (gwM : Addr) (h0 : Heap) (n0 : Nat) (v : Option Value) (h : Heap) (L : List Loc) : Prop := Fr n0 L ∧ h = h0 ∧ v = some (.int (y0 &&& (255 : Int32)))
theorem own_lca2_0 (l : Launch) (Z : State) (a0 : Array Value) (hw : ∀ d ∈ tables_1, d.before a0 Z = true) (ws : List Jvm.Cond) (xb : Addr) (xq : ClassId) (y0 : Int32) (y1 : Int32) (h0 : Heap) (n0 : Nat) (O0 : Old Z n0 h0) (gz : Int32) (gfm : Value) (gwC : Addr) (gwM : Addr) (G : GG Z gz gfm gwC gwM) (P0 : Arv Z h0 xb xq .byte (2 : Int32) [.int y0, .int y1] (.int 0)) : own_Met l Z (⟨"java/lang/StringLatin1", "charAt", "([BI)C"⟩ : MethodName) jdk_43_method_2_code 2 (some .char) ws ({ frames := 2, cells := 0, slots := 0, locals := 27 } : Room) #[.ref xb, .int 0] h0 (Q_own_lca2_0 Z xb xq y0 y1 gz gfm gwC gwM h0 n0) := by
  refine own_mk (plainFor_of_name own_pn_java_lang_StringLatin1) O0 ?_
  intro p e s m below meth c s₁ hx hby hml hZ hown hnm hlk hret X0 e0 N0 z0 z1
  refine own_cast (own_ef_own_lca2_0 m xb) ?_
  show own_Goes p e below (s₁.setTop (mkF m 0 #[vR xb, vI 0] [])) _
  obtain ⟨G0, G1, G2, G3, G4, G5, G6, G7, G8, G9, G10, G11⟩ := id G
  have ltG8 : @LT.lt Nat _ gwC Z.heap.size := G8.lt
  have ltG10 : @LT.lt Nat _ gwM Z.heap.size := G10.lt
  have ltP0 : @LT.lt Nat _ xb h0.size := P0.lt
  refine q_iloadN X0 hx hby d15_0 rfl ?_
  refine q_aloadN X0 hx hby d15_1 rfl rfl ?_
  refine q_len X0 hx hby hZ e0 P0 d15_2 ?_
  refine k_S X0 hx hby hZ hown (wh hw 75 rfl) (wh hw 76 rfl) (W := 0) (own_sci l Z a0 hw [] (0 : Int32) (2 : Int32) h0 n0 O0 gz gfm gwC gwM G (show ¬ (0 : Int32) < (0 : Int32) from (by first | assumption | decide)) (show (0 : Int32) < (2 : Int32) from (by first | assumption | decide))) (wh hw 77 rfl) (wh hw 6 rfl) e0  hml (argsL := [.int 0, .int 2]) (rest := []) own_pd_12 d15_3 (fun _ T2 L2 X2 hQ2 => ?_)
  obtain ⟨Nc2, e2, rfl⟩ := hQ2
  have N2 := Fr.app N0 Nc2
  refine q_aloadN X2 hx hby d15_6 rfl rfl ?_
  refine q_iloadN X2 hx hby d15_7 rfl ?_
  refine q_baloadBytes X2 hx hby hZ e2 P0 d15_8 (.int y0) ?_
  refine q_sipush X2 hx hby d15_9 ?_
  refine q_iand X2 hx hby d15_12 ?_
  refine gg (fun t k => XS.i2c X2.here hx rfl (hb hby d15_13) rfl k) ?_
  show own_Goes p e below (T2.setTop (mkF m 14 #[vR xb, vI 0] [(.int ((y0 &&& (255 : Int32)).toUInt32.toUInt16.toUInt32.toInt32))])) _
  rw [i2c_mask]
  show own_Goes p e below (T2.setTop (mkF m 14 #[vR xb, vI 0] [(.int (y0 &&& (255 : Int32)))])) _
  refine r_C X2 hx hby hret hlk d15_14 e2 ?_ (hn := (congrArg Value.int (i2c_mask _)))
  exact ⟨N2, rfl, rfl⟩
theorem own_ef_own_ca2_0 (m : MethodId) (xa : Addr) : entryFrame m #[.ref xa, .int 0] 2 = mkF m 0 #[vR xa, vI 0] [] := by first | (simp [entryFrame, mkF, argsToLocals, Value.category]; done) | rfl
def Q_own_ca2_0 (Z : State) (xa : Addr) (xt : Addr) (c0 : Int32) (c1 : Int32) (gz : Int32) (gfm : Value) (gwC : Addr) (gwM : Addr) (h0 : Heap) (n0 : Nat) (v : Option Value) (h : Heap) (L : List Loc) : Prop := Fr n0 L ∧ h = h0 ∧ v = some (.int c0)
theorem own_ca2_0 (l : Launch) (Z : State) (a0 : Array Value) (hw : ∀ d ∈ tables_1, d.before a0 Z = true) (ws : List Jvm.Cond) (xa : Addr) (xt : Addr) (c0 : Int32) (c1 : Int32) (h0 : Heap) (n0 : Nat) (O0 : Old Z n0 h0) (gz : Int32) (gfm : Value) (gwC : Addr) (gwM : Addr) (G : GG Z gz gfm gwC gwM) (P0 : own_Str Z h0 xa xt ([c0, c1] : List Int32)) : own_Met l Z (⟨"java/lang/String", "charAt", "(I)C"⟩ : MethodName) jdk_42_method_56_code 2 (some .char) ws ({ frames := 4, cells := 0, slots := 0, locals := 53 } : Room) #[.ref xa, .int 0] h0 (Q_own_ca2_0 Z xa xt c0 c1 gz gfm gwC gwM h0 n0) := by
  refine own_mk (plainFor_of_name own_pn_java_lang_String) O0 ?_
  intro p e s m below meth c s₁ hx hby hml hZ hown hnm hlk hret X0 e0 N0 z0 z1
  refine own_cast (own_ef_own_ca2_0 m xa) ?_
  show own_Goes p e below (s₁.setTop (mkF m 0 #[vR xa, vI 0] [])) _
  obtain ⟨G0, G1, G2, G3, G4, G5, G6, G7, G8, G9, G10, G11⟩ := id G
  have ltG8 : @LT.lt Nat _ gwC Z.heap.size := G8.lt
  have ltG10 : @LT.lt Nat _ gwM Z.heap.size := G10.lt
  have ltP0 : @LT.lt Nat _ xa h0.size := P0.1.lt
  have luP0 : @LT.lt Nat _ xt h0.size := P0.lt2
  obtain ⟨Es1, Vs1, kbs1, cds1, Ns1, vss1, Cs1, As1, hCs1, hbs1, hls1⟩ := id P0
  rcases hCs1 with ⟨rfl, rfl, rfl, hLs1⟩ | ⟨rfl, rfl, rfl, hWs1⟩
  · have Bs1 : Arv Z h0 xt kbs1 .byte (2 : Int32) [(.int (c0.toInt8.toInt32)), (.int (c1.toInt8.toInt32))] (.int 0) := As1
    have Ds1 : Fld Z h0 xa "java/lang/String" "coder" "B" (.int 0) := Cs1
    show own_Goes p e below (s₁.setTop (mkF m 0 #[vR xa, vI 0] [])) _
    refine q_aloadN X0 hx hby d13_0 rfl rfl ?_
    refine k_V X0 hx hby hZ hown (wh hw 66 rfl) (wh hw 67 rfl) (wh hw 69 rfl) (wh hw 68 rfl) (W := 0) (own_isL0 l Z a0 hw [] xa h0 n0 O0 gz gfm gwC gwM G Ds1) (wh hw 70 rfl) (wh hw 6 rfl) e0 Es1  hml (argsL := []) (rest := []) own_pd_14 d13_1 (fun _ T2 L2 X2 hQ2 => ?_)
    obtain ⟨Nc2, e2, rfl⟩ := hQ2
    have N2 := Fr.app N0 Nc2
    refine q_ifNo X2 hx hby d13_4 ((if0 _ _).trans (feq (show ¬ ((1 : Int32) = (0 : Int32)) from by decide)).1) ?_
    refine q_aloadN X2 hx hby d13_7 rfl rfl ?_
    refine qG X2 hx hby hZ hown (wh hw 24 rfl) e2 Vs1 d13_8 (fun T3 X3 e3 => ?_)
    refine q_iloadN X3 hx hby d13_11 rfl ?_
    refine k_S X3 hx hby hZ hown (wh hw 71 rfl) (wh hw 72 rfl) (W := 0) (own_lca2_0 l Z a0 hw [] xt kbs1 (c0.toInt8.toInt32) (c1.toInt8.toInt32) h0 n0 O0 gz gfm gwC gwM G Bs1) (wh hw 74 rfl) (wh hw 73 rfl) e3  hml (argsL := [.ref xt, .int 0]) (rest := []) own_pd_5 d13_12 (fun _ T4 L4 X4 hQ4 => ?_)
    obtain ⟨Nc4, e4, rfl⟩ := hQ4
    have N4 := Fr.app N2 Nc4
    show own_Goes p e below (T4.setTop (mkF m 15 #[vR xa, vI 0] [(.int ((c0.toInt8.toInt32) &&& (255 : Int32)))])) _
    rw [show ((c0.toInt8.toInt32) &&& (255 : Int32)) = c0 from own_b8 (hbs1 c0 (by simp)) (hLs1 c0 (by simp))]
    refine r_C X4 hx hby hret hlk d13_15 e4 ?_ (hn := (own_narr16 (hbs1 c0 (by simp))))
    exact ⟨N4, rfl, rfl⟩
  · have Bs1 : Arv Z h0 xt kbs1 .byte (4 : Int32) [(.int (c0.toInt8.toInt32)), (.int ((c0 >>> ((8 : Int32) &&& 31)).toInt8.toInt32)), (.int (c1.toInt8.toInt32)), (.int ((c1 >>> ((8 : Int32) &&& 31)).toInt8.toInt32))] (.int 0) := As1
    have Ds1 : Fld Z h0 xa "java/lang/String" "coder" "B" (.int 1) := Cs1
    show own_Goes p e below (s₁.setTop (mkF m 0 #[vR xa, vI 0] [])) _
    refine q_aloadN X0 hx hby d13_0 rfl rfl ?_
    refine k_V X0 hx hby hZ hown (wh hw 66 rfl) (wh hw 67 rfl) (wh hw 69 rfl) (wh hw 68 rfl) (W := 0) (own_isL1 l Z a0 hw [] xa h0 n0 O0 gz gfm gwC gwM G Ds1) (wh hw 70 rfl) (wh hw 6 rfl) e0 Es1  hml (argsL := []) (rest := []) own_pd_14 d13_1 (fun _ T5 L5 X5 hQ5 => ?_)
    obtain ⟨Nc5, e5, rfl⟩ := hQ5
    have N5 := Fr.app N0 Nc5
    refine q_ifYes (pc := 4) X5 hx hby d13_4 (pc' := 16) ((if0 _ _).trans (teq (show ((0 : Int32) = (0 : Int32)) from by decide)).1) (by decide) (by decide) ?_
    refine q_aloadN X5 hx hby d13_16 rfl rfl ?_
    refine qG X5 hx hby hZ hown (wh hw 24 rfl) e5 Vs1 d13_17 (fun T6 X6 e6 => ?_)
    refine q_iloadN X6 hx hby d13_20 rfl ?_
    refine k_S X6 hx hby hZ hown (wh hw 171 rfl) (wh hw 172 rfl) (W := 0) (own_uca2_0 l Z a0 hw [] xt kbs1 (c0.toInt8.toInt32) ((c0 >>> ((8 : Int32) &&& 31)).toInt8.toInt32) (c1.toInt8.toInt32) ((c1 >>> ((8 : Int32) &&& 31)).toInt8.toInt32) h0 n0 O0 gz gfm gwC gwM G Bs1) (wh hw 173 rfl) (wh hw 29 rfl) e6  hml (argsL := [.ref xt, .int 0]) (rest := []) own_pd_5 d13_21 (fun _ T7 L7 X7 hQ7 => ?_)
    obtain ⟨Nc7, e7, rfl⟩ := hQ7
    have N7 := Fr.app N5 Nc7
    show own_Goes p e below (T7.setTop (mkF m 24 #[vR xa, vI 0] [(.int (((((c0.toInt8.toInt32) &&& (255 : Int32)) <<< ((0 : Int32) &&& 31)) ||| ((((c0 >>> ((8 : Int32) &&& 31)).toInt8.toInt32) &&& (255 : Int32)) <<< ((8 : Int32) &&& 31))).toUInt32.toUInt16.toUInt32.toInt32))])) _
    rw [show (((((c0.toInt8.toInt32) &&& (255 : Int32)) <<< ((0 : Int32) &&& 31)) ||| ((((c0 >>> ((8 : Int32) &&& 31)).toInt8.toInt32) &&& (255 : Int32)) <<< ((8 : Int32) &&& 31))).toUInt32.toUInt16.toUInt32.toInt32) = c0 from own_g16 (hbs1 c0 (by simp))]
    refine r_C X7 hx hby hret hlk d13_24 e7 ?_ (hn := (own_narr16 (hbs1 c0 (by simp))))
    exact ⟨N7, rfl, rfl⟩
theorem own_ef_own_uca2_1 (m : MethodId) (xb : Addr) : entryFrame m #[.ref xb, .int 1] 2 = mkF m 0 #[vR xb, vI 1] [] := by first | (simp [entryFrame, mkF, argsToLocals, Value.category]; done) | rfl
def Q_own_uca2_1 (Z : State) (xb : Addr) (xq : ClassId) (y0 : Int32) (y1 : Int32) (y2 : Int32) (y3 : Int32) (gz : Int32) (gfm : Value) (gwC : Addr) (gwM : Addr) (h0 : Heap) (n0 : Nat) (v : Option Value) (h : Heap) (L : List Loc) : Prop := Fr n0 L ∧ h = h0 ∧ v = some (.int ((((y2 &&& (255 : Int32)) <<< ((0 : Int32) &&& 31)) ||| ((y3 &&& (255 : Int32)) <<< ((8 : Int32) &&& 31))).toUInt32.toUInt16.toUInt32.toInt32))
theorem own_uca2_1 (l : Launch) (Z : State) (a0 : Array Value) (hw : ∀ d ∈ tables_1, d.before a0 Z = true) (ws : List Jvm.Cond) (xb : Addr) (xq : ClassId) (y0 : Int32) (y1 : Int32) (y2 : Int32) (y3 : Int32) (h0 : Heap) (n0 : Nat) (O0 : Old Z n0 h0) (gz : Int32) (gfm : Value) (gwC : Addr) (gwM : Addr) (G : GG Z gz gfm gwC gwM) (P0 : Arv Z h0 xb xq .byte (4 : Int32) [.int y0, .int y1, .int y2, .int y3] (.int 0)) : own_Met l Z (⟨"java/lang/StringUTF16", "charAt", "([BI)C"⟩ : MethodName) jdk_52_method_83_code 2 (some .char) ws ({ frames := 3, cells := 0, slots := 0, locals := 40 } : Room) #[.ref xb, .int 1] h0 (Q_own_uca2_1 Z xb xq y0 y1 y2 y3 gz gfm gwC gwM h0 n0) := by
  refine own_mk (plainFor_of_name own_pn_java_lang_StringUTF16) O0 ?_
  intro p e s m below meth c s₁ hx hby hml hZ hown hnm hlk hret X0 e0 N0 z0 z1
  refine own_cast (own_ef_own_uca2_1 m xb) ?_
  show own_Goes p e below (s₁.setTop (mkF m 0 #[vR xb, vI 1] [])) _
  obtain ⟨G0, G1, G2, G3, G4, G5, G6, G7, G8, G9, G10, G11⟩ := id G
  have ltG8 : @LT.lt Nat _ gwC Z.heap.size := G8.lt
  have ltG10 : @LT.lt Nat _ gwM Z.heap.size := G10.lt
  have ltP0 : @LT.lt Nat _ xb h0.size := P0.lt
  refine q_iloadN X0 hx hby d33_0 rfl ?_
  refine q_aloadN X0 hx hby d33_1 rfl rfl ?_
  refine k_S X0 hx hby hZ hown (wh hw 174 rfl) (wh hw 175 rfl) (W := 0) (own_uci2 l Z a0 hw [] (1 : Int32) xb xq y0 y1 y2 y3 h0 n0 O0 gz gfm gwC gwM G P0 (show ¬ (1 : Int32) < (0 : Int32) from (by first | assumption | decide)) (show (1 : Int32) < (2 : Int32) from (by first | assumption | decide))) (wh hw 176 rfl) (wh hw 29 rfl) e0  hml (argsL := [.int 1, .ref xb]) (rest := []) own_pd_13 d33_2 (fun _ T1 L1 X1 hQ1 => ?_)
  obtain ⟨Nc1, e1, rfl⟩ := hQ1
  have N1 := Fr.app N0 Nc1
  refine q_aloadN X1 hx hby d33_5 rfl rfl ?_
  refine q_iloadN X1 hx hby d33_6 rfl ?_
  refine k_S X1 hx hby hZ hown (wh hw 168 rfl) (wh hw 169 rfl) (W := 0) (own_gc2_1 l Z a0 hw [] xb xq y0 y1 y2 y3 h0 n0 O0 gz gfm gwC gwM G P0) (wh hw 170 rfl) (wh hw 29 rfl) e1  hml (argsL := [.ref xb, .int 1]) (rest := []) own_pd_5 d33_7 (fun _ T2 L2 X2 hQ2 => ?_)
  obtain ⟨Nc2, e2, rfl⟩ := hQ2
  have N2 := Fr.app N1 Nc2
  refine r_C X2 hx hby hret hlk d33_10 e2 ?_ (hn := (own_narr16 (own_C16i _)))
  exact ⟨N2, rfl, rfl⟩
theorem own_ef_own_lca2_1 (m : MethodId) (xb : Addr) : entryFrame m #[.ref xb, .int 1] 2 = mkF m 0 #[vR xb, vI 1] [] := by first | (simp [entryFrame, mkF, argsToLocals, Value.category]; done) | rfl
def Q_own_lca2_1 (Z : State) (xb : Addr) (xq : ClassId) (y0 : Int32) (y1 : Int32) (gz : Int32) (gfm : Value) (gwC : Addr) (gwM : Addr) (h0 : Heap) (n0 : Nat) (v : Option Value) (h : Heap) (L : List Loc) : Prop := Fr n0 L ∧ h = h0 ∧ v = some (.int (y1 &&& (255 : Int32)))
theorem own_lca2_1 (l : Launch) (Z : State) (a0 : Array Value) (hw : ∀ d ∈ tables_1, d.before a0 Z = true) (ws : List Jvm.Cond) (xb : Addr) (xq : ClassId) (y0 : Int32) (y1 : Int32) (h0 : Heap) (n0 : Nat) (O0 : Old Z n0 h0) (gz : Int32) (gfm : Value) (gwC : Addr) (gwM : Addr) (G : GG Z gz gfm gwC gwM) (P0 : Arv Z h0 xb xq .byte (2 : Int32) [.int y0, .int y1] (.int 0)) : own_Met l Z (⟨"java/lang/StringLatin1", "charAt", "([BI)C"⟩ : MethodName) jdk_43_method_2_code 2 (some .char) ws ({ frames := 2, cells := 0, slots := 0, locals := 27 } : Room) #[.ref xb, .int 1] h0 (Q_own_lca2_1 Z xb xq y0 y1 gz gfm gwC gwM h0 n0) := by
  refine own_mk (plainFor_of_name own_pn_java_lang_StringLatin1) O0 ?_
  intro p e s m below meth c s₁ hx hby hml hZ hown hnm hlk hret X0 e0 N0 z0 z1
  refine own_cast (own_ef_own_lca2_1 m xb) ?_
  show own_Goes p e below (s₁.setTop (mkF m 0 #[vR xb, vI 1] [])) _
  obtain ⟨G0, G1, G2, G3, G4, G5, G6, G7, G8, G9, G10, G11⟩ := id G
  have ltG8 : @LT.lt Nat _ gwC Z.heap.size := G8.lt
  have ltG10 : @LT.lt Nat _ gwM Z.heap.size := G10.lt
  have ltP0 : @LT.lt Nat _ xb h0.size := P0.lt
  refine q_iloadN X0 hx hby d15_0 rfl ?_
  refine q_aloadN X0 hx hby d15_1 rfl rfl ?_
  refine q_len X0 hx hby hZ e0 P0 d15_2 ?_
  refine k_S X0 hx hby hZ hown (wh hw 75 rfl) (wh hw 76 rfl) (W := 0) (own_sci l Z a0 hw [] (1 : Int32) (2 : Int32) h0 n0 O0 gz gfm gwC gwM G (show ¬ (1 : Int32) < (0 : Int32) from (by first | assumption | decide)) (show (1 : Int32) < (2 : Int32) from (by first | assumption | decide))) (wh hw 77 rfl) (wh hw 6 rfl) e0  hml (argsL := [.int 1, .int 2]) (rest := []) own_pd_12 d15_3 (fun _ T2 L2 X2 hQ2 => ?_)
  obtain ⟨Nc2, e2, rfl⟩ := hQ2
  have N2 := Fr.app N0 Nc2
  refine q_aloadN X2 hx hby d15_6 rfl rfl ?_
  refine q_iloadN X2 hx hby d15_7 rfl ?_
  refine q_baloadBytes X2 hx hby hZ e2 P0 d15_8 (.int y1) ?_
  refine q_sipush X2 hx hby d15_9 ?_
  refine q_iand X2 hx hby d15_12 ?_
  refine gg (fun t k => XS.i2c X2.here hx rfl (hb hby d15_13) rfl k) ?_
  show own_Goes p e below (T2.setTop (mkF m 14 #[vR xb, vI 1] [(.int ((y1 &&& (255 : Int32)).toUInt32.toUInt16.toUInt32.toInt32))])) _
  rw [i2c_mask]
  show own_Goes p e below (T2.setTop (mkF m 14 #[vR xb, vI 1] [(.int (y1 &&& (255 : Int32)))])) _
  refine r_C X2 hx hby hret hlk d15_14 e2 ?_ (hn := (congrArg Value.int (i2c_mask _)))
  exact ⟨N2, rfl, rfl⟩
theorem own_ef_own_ca2_1 (m : MethodId) (xa : Addr) : entryFrame m #[.ref xa, .int 1] 2 = mkF m 0 #[vR xa, vI 1] [] := by first | (simp [entryFrame, mkF, argsToLocals, Value.category]; done) | rfl
def Q_own_ca2_1 (Z : State) (xa : Addr) (xt : Addr) (c0 : Int32) (c1 : Int32) (gz : Int32) (gfm : Value) (gwC : Addr) (gwM : Addr) (h0 : Heap) (n0 : Nat) (v : Option Value) (h : Heap) (L : List Loc) : Prop := Fr n0 L ∧ h = h0 ∧ v = some (.int c1)
theorem own_ca2_1 (l : Launch) (Z : State) (a0 : Array Value) (hw : ∀ d ∈ tables_1, d.before a0 Z = true) (ws : List Jvm.Cond) (xa : Addr) (xt : Addr) (c0 : Int32) (c1 : Int32) (h0 : Heap) (n0 : Nat) (O0 : Old Z n0 h0) (gz : Int32) (gfm : Value) (gwC : Addr) (gwM : Addr) (G : GG Z gz gfm gwC gwM) (P0 : own_Str Z h0 xa xt ([c0, c1] : List Int32)) : own_Met l Z (⟨"java/lang/String", "charAt", "(I)C"⟩ : MethodName) jdk_42_method_56_code 2 (some .char) ws ({ frames := 4, cells := 0, slots := 0, locals := 53 } : Room) #[.ref xa, .int 1] h0 (Q_own_ca2_1 Z xa xt c0 c1 gz gfm gwC gwM h0 n0) := by
  refine own_mk (plainFor_of_name own_pn_java_lang_String) O0 ?_
  intro p e s m below meth c s₁ hx hby hml hZ hown hnm hlk hret X0 e0 N0 z0 z1
  refine own_cast (own_ef_own_ca2_1 m xa) ?_
  show own_Goes p e below (s₁.setTop (mkF m 0 #[vR xa, vI 1] [])) _
  obtain ⟨G0, G1, G2, G3, G4, G5, G6, G7, G8, G9, G10, G11⟩ := id G
  have ltG8 : @LT.lt Nat _ gwC Z.heap.size := G8.lt
  have ltG10 : @LT.lt Nat _ gwM Z.heap.size := G10.lt
  have ltP0 : @LT.lt Nat _ xa h0.size := P0.1.lt
  have luP0 : @LT.lt Nat _ xt h0.size := P0.lt2
  obtain ⟨Es1, Vs1, kbs1, cds1, Ns1, vss1, Cs1, As1, hCs1, hbs1, hls1⟩ := id P0
  rcases hCs1 with ⟨rfl, rfl, rfl, hLs1⟩ | ⟨rfl, rfl, rfl, hWs1⟩
  · have Bs1 : Arv Z h0 xt kbs1 .byte (2 : Int32) [(.int (c0.toInt8.toInt32)), (.int (c1.toInt8.toInt32))] (.int 0) := As1
    have Ds1 : Fld Z h0 xa "java/lang/String" "coder" "B" (.int 0) := Cs1
    show own_Goes p e below (s₁.setTop (mkF m 0 #[vR xa, vI 1] [])) _
    refine q_aloadN X0 hx hby d13_0 rfl rfl ?_
    refine k_V X0 hx hby hZ hown (wh hw 66 rfl) (wh hw 67 rfl) (wh hw 69 rfl) (wh hw 68 rfl) (W := 0) (own_isL0 l Z a0 hw [] xa h0 n0 O0 gz gfm gwC gwM G Ds1) (wh hw 70 rfl) (wh hw 6 rfl) e0 Es1  hml (argsL := []) (rest := []) own_pd_14 d13_1 (fun _ T2 L2 X2 hQ2 => ?_)
    obtain ⟨Nc2, e2, rfl⟩ := hQ2
    have N2 := Fr.app N0 Nc2
    refine q_ifNo X2 hx hby d13_4 ((if0 _ _).trans (feq (show ¬ ((1 : Int32) = (0 : Int32)) from by decide)).1) ?_
    refine q_aloadN X2 hx hby d13_7 rfl rfl ?_
    refine qG X2 hx hby hZ hown (wh hw 24 rfl) e2 Vs1 d13_8 (fun T3 X3 e3 => ?_)
    refine q_iloadN X3 hx hby d13_11 rfl ?_
    refine k_S X3 hx hby hZ hown (wh hw 71 rfl) (wh hw 72 rfl) (W := 0) (own_lca2_1 l Z a0 hw [] xt kbs1 (c0.toInt8.toInt32) (c1.toInt8.toInt32) h0 n0 O0 gz gfm gwC gwM G Bs1) (wh hw 74 rfl) (wh hw 73 rfl) e3  hml (argsL := [.ref xt, .int 1]) (rest := []) own_pd_5 d13_12 (fun _ T4 L4 X4 hQ4 => ?_)
    obtain ⟨Nc4, e4, rfl⟩ := hQ4
    have N4 := Fr.app N2 Nc4
    show own_Goes p e below (T4.setTop (mkF m 15 #[vR xa, vI 1] [(.int ((c1.toInt8.toInt32) &&& (255 : Int32)))])) _
    rw [show ((c1.toInt8.toInt32) &&& (255 : Int32)) = c1 from own_b8 (hbs1 c1 (by simp)) (hLs1 c1 (by simp))]
    refine r_C X4 hx hby hret hlk d13_15 e4 ?_ (hn := (own_narr16 (hbs1 c1 (by simp))))
    exact ⟨N4, rfl, rfl⟩
  · have Bs1 : Arv Z h0 xt kbs1 .byte (4 : Int32) [(.int (c0.toInt8.toInt32)), (.int ((c0 >>> ((8 : Int32) &&& 31)).toInt8.toInt32)), (.int (c1.toInt8.toInt32)), (.int ((c1 >>> ((8 : Int32) &&& 31)).toInt8.toInt32))] (.int 0) := As1
    have Ds1 : Fld Z h0 xa "java/lang/String" "coder" "B" (.int 1) := Cs1
    show own_Goes p e below (s₁.setTop (mkF m 0 #[vR xa, vI 1] [])) _
    refine q_aloadN X0 hx hby d13_0 rfl rfl ?_
    refine k_V X0 hx hby hZ hown (wh hw 66 rfl) (wh hw 67 rfl) (wh hw 69 rfl) (wh hw 68 rfl) (W := 0) (own_isL1 l Z a0 hw [] xa h0 n0 O0 gz gfm gwC gwM G Ds1) (wh hw 70 rfl) (wh hw 6 rfl) e0 Es1  hml (argsL := []) (rest := []) own_pd_14 d13_1 (fun _ T5 L5 X5 hQ5 => ?_)
    obtain ⟨Nc5, e5, rfl⟩ := hQ5
    have N5 := Fr.app N0 Nc5
    refine q_ifYes (pc := 4) X5 hx hby d13_4 (pc' := 16) ((if0 _ _).trans (teq (show ((0 : Int32) = (0 : Int32)) from by decide)).1) (by decide) (by decide) ?_
    refine q_aloadN X5 hx hby d13_16 rfl rfl ?_
    refine qG X5 hx hby hZ hown (wh hw 24 rfl) e5 Vs1 d13_17 (fun T6 X6 e6 => ?_)
    refine q_iloadN X6 hx hby d13_20 rfl ?_
    refine k_S X6 hx hby hZ hown (wh hw 171 rfl) (wh hw 172 rfl) (W := 0) (own_uca2_1 l Z a0 hw [] xt kbs1 (c0.toInt8.toInt32) ((c0 >>> ((8 : Int32) &&& 31)).toInt8.toInt32) (c1.toInt8.toInt32) ((c1 >>> ((8 : Int32) &&& 31)).toInt8.toInt32) h0 n0 O0 gz gfm gwC gwM G Bs1) (wh hw 173 rfl) (wh hw 29 rfl) e6  hml (argsL := [.ref xt, .int 1]) (rest := []) own_pd_5 d13_21 (fun _ T7 L7 X7 hQ7 => ?_)
    obtain ⟨Nc7, e7, rfl⟩ := hQ7
    have N7 := Fr.app N5 Nc7
    show own_Goes p e below (T7.setTop (mkF m 24 #[vR xa, vI 1] [(.int (((((c1.toInt8.toInt32) &&& (255 : Int32)) <<< ((0 : Int32) &&& 31)) ||| ((((c1 >>> ((8 : Int32) &&& 31)).toInt8.toInt32) &&& (255 : Int32)) <<< ((8 : Int32) &&& 31))).toUInt32.toUInt16.toUInt32.toInt32))])) _
    rw [show (((((c1.toInt8.toInt32) &&& (255 : Int32)) <<< ((0 : Int32) &&& 31)) ||| ((((c1 >>> ((8 : Int32) &&& 31)).toInt8.toInt32) &&& (255 : Int32)) <<< ((8 : Int32) &&& 31))).toUInt32.toUInt16.toUInt32.toInt32) = c1 from own_g16 (hbs1 c1 (by simp))]
    refine r_C X7 hx hby hret hlk d13_24 e7 ?_ (hn := (own_narr16 (hbs1 c1 (by simp))))
    exact ⟨N7, rfl, rfl⟩
theorem own_ef_own_ul3 (m : MethodId) (xb : Addr) : entryFrame m #[.ref xb] 1 = mkF m 0 #[vR xb] [] := by first | (simp [entryFrame, mkF, argsToLocals, Value.category]; done) | rfl
def Q_own_ul3 (Z : State) (xb : Addr) (xq : ClassId) (y0 : Int32) (y1 : Int32) (y2 : Int32) (y3 : Int32) (y4 : Int32) (y5 : Int32) (h0 : Heap) (n0 : Nat) (v : Option Value) (h : Heap) (L : List Loc) : Prop := Fr n0 L ∧ h = h0 ∧ v = some (.int 3)
theorem own_ul3 (l : Launch) (Z : State) (a0 : Array Value) (hw : ∀ d ∈ tables_1, d.before a0 Z = true) (ws : List Jvm.Cond) (xb : Addr) (xq : ClassId) (y0 : Int32) (y1 : Int32) (y2 : Int32) (y3 : Int32) (y4 : Int32) (y5 : Int32) (h0 : Heap) (n0 : Nat) (O0 : Old Z n0 h0) (P0 : Arv Z h0 xb xq .byte (6 : Int32) [.int y0, .int y1, .int y2, .int y3, .int y4, .int y5] (.int 0)) : own_Met l Z (⟨"java/lang/StringUTF16", "length", "([B)I"⟩ : MethodName) jdk_52_method_6_code 1 (some .int) ws ({ frames := 0, cells := 0, slots := 0, locals := 0 } : Room) #[.ref xb] h0 (Q_own_ul3 Z xb xq y0 y1 y2 y3 y4 y5 h0 n0) := by
  refine own_mk (plainFor_of_name own_pn_java_lang_StringUTF16) O0 ?_
  intro p e s m below meth c s₁ hx hby hml hZ hown hnm hlk hret X0 e0 N0 z0 z1
  refine own_cast (own_ef_own_ul3 m xb) ?_
  show own_Goes p e below (s₁.setTop (mkF m 0 #[vR xb] [])) _
  have ltP0 : @LT.lt Nat _ xb h0.size := P0.lt
  refine q_aloadN X0 hx hby d35_0 rfl rfl ?_
  refine q_len X0 hx hby hZ e0 P0 d35_1 ?_
  refine q_iconst X0 hx hby d35_2 ?_
  refine gg (fun t k => XS.ishr X0.here hx rfl (hb hby d35_3) rfl k) ?_
  show own_Goes p e below (s₁.setTop (mkF m 4 #[vR xb] [(.int ((6 : Int32) >>> ((1 : Int32) &&& 31)))])) _
  rw [show ((6 : Int32) >>> ((1 : Int32) &&& 31)) = (3 : Int32) from by decide]
  refine r_I X0 hx hby hret hlk d35_4 e0 ?_
  exact ⟨N0, rfl, rfl⟩
theorem own_ef_own_uci3 (m : MethodId) (xi : Int32) (xb : Addr) : entryFrame m #[.int xi, .ref xb] 2 = mkF m 0 #[vI xi, vR xb] [] := by first | (simp [entryFrame, mkF, argsToLocals, Value.category]; done) | rfl
def Q_own_uci3 (Z : State) (xi : Int32) (xb : Addr) (xq : ClassId) (y0 : Int32) (y1 : Int32) (y2 : Int32) (y3 : Int32) (y4 : Int32) (y5 : Int32) (gz : Int32) (gfm : Value) (gwC : Addr) (gwM : Addr) (h0 : Heap) (n0 : Nat) (v : Option Value) (h : Heap) (L : List Loc) : Prop := Fr n0 L ∧ h = h0 ∧ v = none
theorem own_uci3 (l : Launch) (Z : State) (a0 : Array Value) (hw : ∀ d ∈ tables_1, d.before a0 Z = true) (ws : List Jvm.Cond) (xi : Int32) (xb : Addr) (xq : ClassId) (y0 : Int32) (y1 : Int32) (y2 : Int32) (y3 : Int32) (y4 : Int32) (y5 : Int32) (h0 : Heap) (n0 : Nat) (O0 : Old Z n0 h0) (gz : Int32) (gfm : Value) (gwC : Addr) (gwM : Addr) (G : GG Z gz gfm gwC gwM) (P0 : Arv Z h0 xb xq .byte (6 : Int32) [.int y0, .int y1, .int y2, .int y3, .int y4, .int y5] (.int 0)) (P1 : ¬ xi < (0 : Int32)) (P2 : xi < (3 : Int32)) : own_Met l Z (⟨"java/lang/StringUTF16", "checkIndex", "(I[B)V"⟩ : MethodName) jdk_52_method_91_code 2 none ws ({ frames := 2, cells := 0, slots := 0, locals := 27 } : Room) #[.int xi, .ref xb] h0 (Q_own_uci3 Z xi xb xq y0 y1 y2 y3 y4 y5 gz gfm gwC gwM h0 n0) := by
  refine own_mk (plainFor_of_name own_pn_java_lang_StringUTF16) O0 ?_
  intro p e s m below meth c s₁ hx hby hml hZ hown hnm hlk hret X0 e0 N0 z0 z1
  refine own_cast (own_ef_own_uci3 m xi xb) ?_
  show own_Goes p e below (s₁.setTop (mkF m 0 #[vI xi, vR xb] [])) _
  obtain ⟨G0, G1, G2, G3, G4, G5, G6, G7, G8, G9, G10, G11⟩ := id G
  have ltG8 : @LT.lt Nat _ gwC Z.heap.size := G8.lt
  have ltG10 : @LT.lt Nat _ gwM Z.heap.size := G10.lt
  have ltP0 : @LT.lt Nat _ xb h0.size := P0.lt
  refine q_iloadN X0 hx hby d34_0 rfl ?_
  refine q_aloadN X0 hx hby d34_1 rfl rfl ?_
  refine k_S X0 hx hby hZ hown (wh hw 177 rfl) (wh hw 178 rfl) (W := 1) (own_ul3 l Z a0 hw [] xb xq y0 y1 y2 y3 y4 y5 h0 n0 O0 P0) (wh hw 179 rfl) (wh hw 29 rfl) e0  hml (argsL := [.ref xb]) (rest := [.int xi]) own_pd_11 d34_2 (fun _ T1 L1 X1 hQ1 => ?_)
  obtain ⟨Nc1, e1, rfl⟩ := hQ1
  have N1 := Fr.app N0 Nc1
  refine k_S X1 hx hby hZ hown (wh hw 180 rfl) (wh hw 76 rfl) (W := 0) (own_sci l Z a0 hw [] xi (3 : Int32) h0 n0 O0 gz gfm gwC gwM G (show ¬ xi < (0 : Int32) from (by first | assumption | decide)) (show xi < (3 : Int32) from (by first | assumption | decide))) (wh hw 77 rfl) (wh hw 6 rfl) e1  hml (argsL := [.int xi, .int 3]) (rest := []) own_pd_12 d34_5 (fun _ T2 L2 X2 hQ2 => ?_)
  obtain ⟨Nc2, e2, rfl⟩ := hQ2
  have N2 := Fr.app N1 Nc2
  refine r_V X2 hx hby hret hlk d34_8 e2 ?_
  exact ⟨N2, rfl, rfl⟩
theorem own_ef_own_uca3_0 (m : MethodId) (xb : Addr) : entryFrame m #[.ref xb, .int 0] 2 = mkF m 0 #[vR xb, vI 0] [] := by first | (simp [entryFrame, mkF, argsToLocals, Value.category]; done) | rfl
def Q_own_uca3_0 (Z : State) (xb : Addr) (xq : ClassId) (y0 : Int32) (y1 : Int32) (y2 : Int32) (y3 : Int32) (y4 : Int32) (y5 : Int32) (gz : Int32) (gfm : Value) (gwC : Addr) (gwM : Addr) (h0 : Heap) (n0 : Nat) (v : Option Value) (h : Heap) (L : List Loc) : Prop := Fr n0 L ∧ h = h0 ∧ v = some (.int ((((y0 &&& (255 : Int32)) <<< ((0 : Int32) &&& 31)) ||| ((y1 &&& (255 : Int32)) <<< ((8 : Int32) &&& 31))).toUInt32.toUInt16.toUInt32.toInt32))
theorem own_uca3_0 (l : Launch) (Z : State) (a0 : Array Value) (hw : ∀ d ∈ tables_1, d.before a0 Z = true) (ws : List Jvm.Cond) (xb : Addr) (xq : ClassId) (y0 : Int32) (y1 : Int32) (y2 : Int32) (y3 : Int32) (y4 : Int32) (y5 : Int32) (h0 : Heap) (n0 : Nat) (O0 : Old Z n0 h0) (gz : Int32) (gfm : Value) (gwC : Addr) (gwM : Addr) (G : GG Z gz gfm gwC gwM) (P0 : Arv Z h0 xb xq .byte (6 : Int32) [.int y0, .int y1, .int y2, .int y3, .int y4, .int y5] (.int 0)) : own_Met l Z (⟨"java/lang/StringUTF16", "charAt", "([BI)C"⟩ : MethodName) jdk_52_method_83_code 2 (some .char) ws ({ frames := 3, cells := 0, slots := 0, locals := 40 } : Room) #[.ref xb, .int 0] h0 (Q_own_uca3_0 Z xb xq y0 y1 y2 y3 y4 y5 gz gfm gwC gwM h0 n0) := by
  refine own_mk (plainFor_of_name own_pn_java_lang_StringUTF16) O0 ?_
  intro p e s m below meth c s₁ hx hby hml hZ hown hnm hlk hret X0 e0 N0 z0 z1
  refine own_cast (own_ef_own_uca3_0 m xb) ?_
  show own_Goes p e below (s₁.setTop (mkF m 0 #[vR xb, vI 0] [])) _
  obtain ⟨G0, G1, G2, G3, G4, G5, G6, G7, G8, G9, G10, G11⟩ := id G
  have ltG8 : @LT.lt Nat _ gwC Z.heap.size := G8.lt
  have ltG10 : @LT.lt Nat _ gwM Z.heap.size := G10.lt
  have ltP0 : @LT.lt Nat _ xb h0.size := P0.lt
  refine q_iloadN X0 hx hby d33_0 rfl ?_
  refine q_aloadN X0 hx hby d33_1 rfl rfl ?_
  refine k_S X0 hx hby hZ hown (wh hw 174 rfl) (wh hw 175 rfl) (W := 0) (own_uci3 l Z a0 hw [] (0 : Int32) xb xq y0 y1 y2 y3 y4 y5 h0 n0 O0 gz gfm gwC gwM G P0 (show ¬ (0 : Int32) < (0 : Int32) from (by first | assumption | decide)) (show (0 : Int32) < (3 : Int32) from (by first | assumption | decide))) (wh hw 176 rfl) (wh hw 29 rfl) e0  hml (argsL := [.int 0, .ref xb]) (rest := []) own_pd_13 d33_2 (fun _ T1 L1 X1 hQ1 => ?_)
  obtain ⟨Nc1, e1, rfl⟩ := hQ1
  have N1 := Fr.app N0 Nc1
  refine q_aloadN X1 hx hby d33_5 rfl rfl ?_
  refine q_iloadN X1 hx hby d33_6 rfl ?_
  refine k_S X1 hx hby hZ hown (wh hw 168 rfl) (wh hw 169 rfl) (W := 0) (own_gc3_0 l Z a0 hw [] xb xq y0 y1 y2 y3 y4 y5 h0 n0 O0 gz gfm gwC gwM G P0) (wh hw 170 rfl) (wh hw 29 rfl) e1  hml (argsL := [.ref xb, .int 0]) (rest := []) own_pd_5 d33_7 (fun _ T2 L2 X2 hQ2 => ?_)
  obtain ⟨Nc2, e2, rfl⟩ := hQ2
  have N2 := Fr.app N1 Nc2
  refine r_C X2 hx hby hret hlk d33_10 e2 ?_ (hn := (own_narr16 (own_C16i _)))
  exact ⟨N2, rfl, rfl⟩
theorem own_ef_own_lca3_0 (m : MethodId) (xb : Addr) : entryFrame m #[.ref xb, .int 0] 2 = mkF m 0 #[vR xb, vI 0] [] := by first | (simp [entryFrame, mkF, argsToLocals, Value.category]; done) | rfl
def Q_own_lca3_0 (Z : State) (xb : Addr) (xq : ClassId) (y0 : Int32) (y1 : Int32) (y2 : Int32) (gz : Int32) (gfm : Value) (gwC : Addr) (gwM : Addr) (h0 : Heap) (n0 : Nat) (v : Option Value) (h : Heap) (L : List Loc) : Prop := Fr n0 L ∧ h = h0 ∧ v = some (.int (y0 &&& (255 : Int32)))
theorem own_lca3_0 (l : Launch) (Z : State) (a0 : Array Value) (hw : ∀ d ∈ tables_1, d.before a0 Z = true) (ws : List Jvm.Cond) (xb : Addr) (xq : ClassId) (y0 : Int32) (y1 : Int32) (y2 : Int32) (h0 : Heap) (n0 : Nat) (O0 : Old Z n0 h0) (gz : Int32) (gfm : Value) (gwC : Addr) (gwM : Addr) (G : GG Z gz gfm gwC gwM) (P0 : Arv Z h0 xb xq .byte (3 : Int32) [.int y0, .int y1, .int y2] (.int 0)) : own_Met l Z (⟨"java/lang/StringLatin1", "charAt", "([BI)C"⟩ : MethodName) jdk_43_method_2_code 2 (some .char) ws ({ frames := 2, cells := 0, slots := 0, locals := 27 } : Room) #[.ref xb, .int 0] h0 (Q_own_lca3_0 Z xb xq y0 y1 y2 gz gfm gwC gwM h0 n0) := by
  refine own_mk (plainFor_of_name own_pn_java_lang_StringLatin1) O0 ?_
  intro p e s m below meth c s₁ hx hby hml hZ hown hnm hlk hret X0 e0 N0 z0 z1
  refine own_cast (own_ef_own_lca3_0 m xb) ?_
  show own_Goes p e below (s₁.setTop (mkF m 0 #[vR xb, vI 0] [])) _
  obtain ⟨G0, G1, G2, G3, G4, G5, G6, G7, G8, G9, G10, G11⟩ := id G
  have ltG8 : @LT.lt Nat _ gwC Z.heap.size := G8.lt
  have ltG10 : @LT.lt Nat _ gwM Z.heap.size := G10.lt
  have ltP0 : @LT.lt Nat _ xb h0.size := P0.lt
  refine q_iloadN X0 hx hby d15_0 rfl ?_
  refine q_aloadN X0 hx hby d15_1 rfl rfl ?_
  refine q_len X0 hx hby hZ e0 P0 d15_2 ?_
  refine k_S X0 hx hby hZ hown (wh hw 75 rfl) (wh hw 76 rfl) (W := 0) (own_sci l Z a0 hw [] (0 : Int32) (3 : Int32) h0 n0 O0 gz gfm gwC gwM G (show ¬ (0 : Int32) < (0 : Int32) from (by first | assumption | decide)) (show (0 : Int32) < (3 : Int32) from (by first | assumption | decide))) (wh hw 77 rfl) (wh hw 6 rfl) e0  hml (argsL := [.int 0, .int 3]) (rest := []) own_pd_12 d15_3 (fun _ T2 L2 X2 hQ2 => ?_)
  obtain ⟨Nc2, e2, rfl⟩ := hQ2
  have N2 := Fr.app N0 Nc2
  refine q_aloadN X2 hx hby d15_6 rfl rfl ?_
  refine q_iloadN X2 hx hby d15_7 rfl ?_
  refine q_baloadBytes X2 hx hby hZ e2 P0 d15_8 (.int y0) ?_
  refine q_sipush X2 hx hby d15_9 ?_
  refine q_iand X2 hx hby d15_12 ?_
  refine gg (fun t k => XS.i2c X2.here hx rfl (hb hby d15_13) rfl k) ?_
  show own_Goes p e below (T2.setTop (mkF m 14 #[vR xb, vI 0] [(.int ((y0 &&& (255 : Int32)).toUInt32.toUInt16.toUInt32.toInt32))])) _
  rw [i2c_mask]
  show own_Goes p e below (T2.setTop (mkF m 14 #[vR xb, vI 0] [(.int (y0 &&& (255 : Int32)))])) _
  refine r_C X2 hx hby hret hlk d15_14 e2 ?_ (hn := (congrArg Value.int (i2c_mask _)))
  exact ⟨N2, rfl, rfl⟩
theorem own_ef_own_ca3_0 (m : MethodId) (xa : Addr) : entryFrame m #[.ref xa, .int 0] 2 = mkF m 0 #[vR xa, vI 0] [] := by first | (simp [entryFrame, mkF, argsToLocals, Value.category]; done) | rfl
def Q_own_ca3_0 (Z : State) (xa : Addr) (xt : Addr) (c0 : Int32) (c1 : Int32) (c2 : Int32) (gz : Int32) (gfm : Value) (gwC : Addr) (gwM : Addr) (h0 : Heap) (n0 : Nat) (v : Option Value) (h : Heap) (L : List Loc) : Prop := Fr n0 L ∧ h = h0 ∧ v = some (.int c0)
theorem own_ca3_0 (l : Launch) (Z : State) (a0 : Array Value) (hw : ∀ d ∈ tables_1, d.before a0 Z = true) (ws : List Jvm.Cond) (xa : Addr) (xt : Addr) (c0 : Int32) (c1 : Int32) (c2 : Int32) (h0 : Heap) (n0 : Nat) (O0 : Old Z n0 h0) (gz : Int32) (gfm : Value) (gwC : Addr) (gwM : Addr) (G : GG Z gz gfm gwC gwM) (P0 : own_Str Z h0 xa xt ([c0, c1, c2] : List Int32)) : own_Met l Z (⟨"java/lang/String", "charAt", "(I)C"⟩ : MethodName) jdk_42_method_56_code 2 (some .char) ws ({ frames := 4, cells := 0, slots := 0, locals := 53 } : Room) #[.ref xa, .int 0] h0 (Q_own_ca3_0 Z xa xt c0 c1 c2 gz gfm gwC gwM h0 n0) := by
  refine own_mk (plainFor_of_name own_pn_java_lang_String) O0 ?_
  intro p e s m below meth c s₁ hx hby hml hZ hown hnm hlk hret X0 e0 N0 z0 z1
  refine own_cast (own_ef_own_ca3_0 m xa) ?_
  show own_Goes p e below (s₁.setTop (mkF m 0 #[vR xa, vI 0] [])) _
  obtain ⟨G0, G1, G2, G3, G4, G5, G6, G7, G8, G9, G10, G11⟩ := id G
  have ltG8 : @LT.lt Nat _ gwC Z.heap.size := G8.lt
  have ltG10 : @LT.lt Nat _ gwM Z.heap.size := G10.lt
  have ltP0 : @LT.lt Nat _ xa h0.size := P0.1.lt
  have luP0 : @LT.lt Nat _ xt h0.size := P0.lt2
  obtain ⟨Es1, Vs1, kbs1, cds1, Ns1, vss1, Cs1, As1, hCs1, hbs1, hls1⟩ := id P0
  rcases hCs1 with ⟨rfl, rfl, rfl, hLs1⟩ | ⟨rfl, rfl, rfl, hWs1⟩
  · have Bs1 : Arv Z h0 xt kbs1 .byte (3 : Int32) [(.int (c0.toInt8.toInt32)), (.int (c1.toInt8.toInt32)), (.int (c2.toInt8.toInt32))] (.int 0) := As1
    have Ds1 : Fld Z h0 xa "java/lang/String" "coder" "B" (.int 0) := Cs1
    show own_Goes p e below (s₁.setTop (mkF m 0 #[vR xa, vI 0] [])) _
    refine q_aloadN X0 hx hby d13_0 rfl rfl ?_
    refine k_V X0 hx hby hZ hown (wh hw 66 rfl) (wh hw 67 rfl) (wh hw 69 rfl) (wh hw 68 rfl) (W := 0) (own_isL0 l Z a0 hw [] xa h0 n0 O0 gz gfm gwC gwM G Ds1) (wh hw 70 rfl) (wh hw 6 rfl) e0 Es1  hml (argsL := []) (rest := []) own_pd_14 d13_1 (fun _ T2 L2 X2 hQ2 => ?_)
    obtain ⟨Nc2, e2, rfl⟩ := hQ2
    have N2 := Fr.app N0 Nc2
    refine q_ifNo X2 hx hby d13_4 ((if0 _ _).trans (feq (show ¬ ((1 : Int32) = (0 : Int32)) from by decide)).1) ?_
    refine q_aloadN X2 hx hby d13_7 rfl rfl ?_
    refine qG X2 hx hby hZ hown (wh hw 24 rfl) e2 Vs1 d13_8 (fun T3 X3 e3 => ?_)
    refine q_iloadN X3 hx hby d13_11 rfl ?_
    refine k_S X3 hx hby hZ hown (wh hw 71 rfl) (wh hw 72 rfl) (W := 0) (own_lca3_0 l Z a0 hw [] xt kbs1 (c0.toInt8.toInt32) (c1.toInt8.toInt32) (c2.toInt8.toInt32) h0 n0 O0 gz gfm gwC gwM G Bs1) (wh hw 74 rfl) (wh hw 73 rfl) e3  hml (argsL := [.ref xt, .int 0]) (rest := []) own_pd_5 d13_12 (fun _ T4 L4 X4 hQ4 => ?_)
    obtain ⟨Nc4, e4, rfl⟩ := hQ4
    have N4 := Fr.app N2 Nc4
    show own_Goes p e below (T4.setTop (mkF m 15 #[vR xa, vI 0] [(.int ((c0.toInt8.toInt32) &&& (255 : Int32)))])) _
    rw [show ((c0.toInt8.toInt32) &&& (255 : Int32)) = c0 from own_b8 (hbs1 c0 (by simp)) (hLs1 c0 (by simp))]
    refine r_C X4 hx hby hret hlk d13_15 e4 ?_ (hn := (own_narr16 (hbs1 c0 (by simp))))
    exact ⟨N4, rfl, rfl⟩
  · have Bs1 : Arv Z h0 xt kbs1 .byte (6 : Int32) [(.int (c0.toInt8.toInt32)), (.int ((c0 >>> ((8 : Int32) &&& 31)).toInt8.toInt32)), (.int (c1.toInt8.toInt32)), (.int ((c1 >>> ((8 : Int32) &&& 31)).toInt8.toInt32)), (.int (c2.toInt8.toInt32)), (.int ((c2 >>> ((8 : Int32) &&& 31)).toInt8.toInt32))] (.int 0) := As1
    have Ds1 : Fld Z h0 xa "java/lang/String" "coder" "B" (.int 1) := Cs1
    show own_Goes p e below (s₁.setTop (mkF m 0 #[vR xa, vI 0] [])) _
    refine q_aloadN X0 hx hby d13_0 rfl rfl ?_
    refine k_V X0 hx hby hZ hown (wh hw 66 rfl) (wh hw 67 rfl) (wh hw 69 rfl) (wh hw 68 rfl) (W := 0) (own_isL1 l Z a0 hw [] xa h0 n0 O0 gz gfm gwC gwM G Ds1) (wh hw 70 rfl) (wh hw 6 rfl) e0 Es1  hml (argsL := []) (rest := []) own_pd_14 d13_1 (fun _ T5 L5 X5 hQ5 => ?_)
    obtain ⟨Nc5, e5, rfl⟩ := hQ5
    have N5 := Fr.app N0 Nc5
    refine q_ifYes (pc := 4) X5 hx hby d13_4 (pc' := 16) ((if0 _ _).trans (teq (show ((0 : Int32) = (0 : Int32)) from by decide)).1) (by decide) (by decide) ?_
    refine q_aloadN X5 hx hby d13_16 rfl rfl ?_
    refine qG X5 hx hby hZ hown (wh hw 24 rfl) e5 Vs1 d13_17 (fun T6 X6 e6 => ?_)
    refine q_iloadN X6 hx hby d13_20 rfl ?_
    refine k_S X6 hx hby hZ hown (wh hw 171 rfl) (wh hw 172 rfl) (W := 0) (own_uca3_0 l Z a0 hw [] xt kbs1 (c0.toInt8.toInt32) ((c0 >>> ((8 : Int32) &&& 31)).toInt8.toInt32) (c1.toInt8.toInt32) ((c1 >>> ((8 : Int32) &&& 31)).toInt8.toInt32) (c2.toInt8.toInt32) ((c2 >>> ((8 : Int32) &&& 31)).toInt8.toInt32) h0 n0 O0 gz gfm gwC gwM G Bs1) (wh hw 173 rfl) (wh hw 29 rfl) e6  hml (argsL := [.ref xt, .int 0]) (rest := []) own_pd_5 d13_21 (fun _ T7 L7 X7 hQ7 => ?_)
    obtain ⟨Nc7, e7, rfl⟩ := hQ7
    have N7 := Fr.app N5 Nc7
    show own_Goes p e below (T7.setTop (mkF m 24 #[vR xa, vI 0] [(.int (((((c0.toInt8.toInt32) &&& (255 : Int32)) <<< ((0 : Int32) &&& 31)) ||| ((((c0 >>> ((8 : Int32) &&& 31)).toInt8.toInt32) &&& (255 : Int32)) <<< ((8 : Int32) &&& 31))).toUInt32.toUInt16.toUInt32.toInt32))])) _
    rw [show (((((c0.toInt8.toInt32) &&& (255 : Int32)) <<< ((0 : Int32) &&& 31)) ||| ((((c0 >>> ((8 : Int32) &&& 31)).toInt8.toInt32) &&& (255 : Int32)) <<< ((8 : Int32) &&& 31))).toUInt32.toUInt16.toUInt32.toInt32) = c0 from own_g16 (hbs1 c0 (by simp))]
    refine r_C X7 hx hby hret hlk d13_24 e7 ?_ (hn := (own_narr16 (hbs1 c0 (by simp))))
    exact ⟨N7, rfl, rfl⟩
theorem own_ef_own_uca3_1 (m : MethodId) (xb : Addr) : entryFrame m #[.ref xb, .int 1] 2 = mkF m 0 #[vR xb, vI 1] [] := by first | (simp [entryFrame, mkF, argsToLocals, Value.category]; done) | rfl
def Q_own_uca3_1 (Z : State) (xb : Addr) (xq : ClassId) (y0 : Int32) (y1 : Int32) (y2 : Int32) (y3 : Int32) (y4 : Int32) (y5 : Int32) (gz : Int32) (gfm : Value) (gwC : Addr) (gwM : Addr) (h0 : Heap) (n0 : Nat) (v : Option Value) (h : Heap) (L : List Loc) : Prop := Fr n0 L ∧ h = h0 ∧ v = some (.int ((((y2 &&& (255 : Int32)) <<< ((0 : Int32) &&& 31)) ||| ((y3 &&& (255 : Int32)) <<< ((8 : Int32) &&& 31))).toUInt32.toUInt16.toUInt32.toInt32))
theorem own_uca3_1 (l : Launch) (Z : State) (a0 : Array Value) (hw : ∀ d ∈ tables_1, d.before a0 Z = true) (ws : List Jvm.Cond) (xb : Addr) (xq : ClassId) (y0 : Int32) (y1 : Int32) (y2 : Int32) (y3 : Int32) (y4 : Int32) (y5 : Int32) (h0 : Heap) (n0 : Nat) (O0 : Old Z n0 h0) (gz : Int32) (gfm : Value) (gwC : Addr) (gwM : Addr) (G : GG Z gz gfm gwC gwM) (P0 : Arv Z h0 xb xq .byte (6 : Int32) [.int y0, .int y1, .int y2, .int y3, .int y4, .int y5] (.int 0)) : own_Met l Z (⟨"java/lang/StringUTF16", "charAt", "([BI)C"⟩ : MethodName) jdk_52_method_83_code 2 (some .char) ws ({ frames := 3, cells := 0, slots := 0, locals := 40 } : Room) #[.ref xb, .int 1] h0 (Q_own_uca3_1 Z xb xq y0 y1 y2 y3 y4 y5 gz gfm gwC gwM h0 n0) := by
  refine own_mk (plainFor_of_name own_pn_java_lang_StringUTF16) O0 ?_
  intro p e s m below meth c s₁ hx hby hml hZ hown hnm hlk hret X0 e0 N0 z0 z1
  refine own_cast (own_ef_own_uca3_1 m xb) ?_
  show own_Goes p e below (s₁.setTop (mkF m 0 #[vR xb, vI 1] [])) _
  obtain ⟨G0, G1, G2, G3, G4, G5, G6, G7, G8, G9, G10, G11⟩ := id G
  have ltG8 : @LT.lt Nat _ gwC Z.heap.size := G8.lt
  have ltG10 : @LT.lt Nat _ gwM Z.heap.size := G10.lt
  have ltP0 : @LT.lt Nat _ xb h0.size := P0.lt
  refine q_iloadN X0 hx hby d33_0 rfl ?_
  refine q_aloadN X0 hx hby d33_1 rfl rfl ?_
  refine k_S X0 hx hby hZ hown (wh hw 174 rfl) (wh hw 175 rfl) (W := 0) (own_uci3 l Z a0 hw [] (1 : Int32) xb xq y0 y1 y2 y3 y4 y5 h0 n0 O0 gz gfm gwC gwM G P0 (show ¬ (1 : Int32) < (0 : Int32) from (by first | assumption | decide)) (show (1 : Int32) < (3 : Int32) from (by first | assumption | decide))) (wh hw 176 rfl) (wh hw 29 rfl) e0  hml (argsL := [.int 1, .ref xb]) (rest := []) own_pd_13 d33_2 (fun _ T1 L1 X1 hQ1 => ?_)
  obtain ⟨Nc1, e1, rfl⟩ := hQ1
  have N1 := Fr.app N0 Nc1
  refine q_aloadN X1 hx hby d33_5 rfl rfl ?_
  refine q_iloadN X1 hx hby d33_6 rfl ?_
  refine k_S X1 hx hby hZ hown (wh hw 168 rfl) (wh hw 169 rfl) (W := 0) (own_gc3_1 l Z a0 hw [] xb xq y0 y1 y2 y3 y4 y5 h0 n0 O0 gz gfm gwC gwM G P0) (wh hw 170 rfl) (wh hw 29 rfl) e1  hml (argsL := [.ref xb, .int 1]) (rest := []) own_pd_5 d33_7 (fun _ T2 L2 X2 hQ2 => ?_)
  obtain ⟨Nc2, e2, rfl⟩ := hQ2
  have N2 := Fr.app N1 Nc2
  refine r_C X2 hx hby hret hlk d33_10 e2 ?_ (hn := (own_narr16 (own_C16i _)))
  exact ⟨N2, rfl, rfl⟩
theorem own_ef_own_lca3_1 (m : MethodId) (xb : Addr) : entryFrame m #[.ref xb, .int 1] 2 = mkF m 0 #[vR xb, vI 1] [] := by first | (simp [entryFrame, mkF, argsToLocals, Value.category]; done) | rfl
def Q_own_lca3_1 (Z : State) (xb : Addr) (xq : ClassId) (y0 : Int32) (y1 : Int32) (y2 : Int32) (gz : Int32) (gfm : Value) (gwC : Addr) (gwM : Addr) (h0 : Heap) (n0 : Nat) (v : Option Value) (h : Heap) (L : List Loc) : Prop := Fr n0 L ∧ h = h0 ∧ v = some (.int (y1 &&& (255 : Int32)))
theorem own_lca3_1 (l : Launch) (Z : State) (a0 : Array Value) (hw : ∀ d ∈ tables_1, d.before a0 Z = true) (ws : List Jvm.Cond) (xb : Addr) (xq : ClassId) (y0 : Int32) (y1 : Int32) (y2 : Int32) (h0 : Heap) (n0 : Nat) (O0 : Old Z n0 h0) (gz : Int32) (gfm : Value) (gwC : Addr) (gwM : Addr) (G : GG Z gz gfm gwC gwM) (P0 : Arv Z h0 xb xq .byte (3 : Int32) [.int y0, .int y1, .int y2] (.int 0)) : own_Met l Z (⟨"java/lang/StringLatin1", "charAt", "([BI)C"⟩ : MethodName) jdk_43_method_2_code 2 (some .char) ws ({ frames := 2, cells := 0, slots := 0, locals := 27 } : Room) #[.ref xb, .int 1] h0 (Q_own_lca3_1 Z xb xq y0 y1 y2 gz gfm gwC gwM h0 n0) := by
  refine own_mk (plainFor_of_name own_pn_java_lang_StringLatin1) O0 ?_
  intro p e s m below meth c s₁ hx hby hml hZ hown hnm hlk hret X0 e0 N0 z0 z1
  refine own_cast (own_ef_own_lca3_1 m xb) ?_
  show own_Goes p e below (s₁.setTop (mkF m 0 #[vR xb, vI 1] [])) _
  obtain ⟨G0, G1, G2, G3, G4, G5, G6, G7, G8, G9, G10, G11⟩ := id G
  have ltG8 : @LT.lt Nat _ gwC Z.heap.size := G8.lt
  have ltG10 : @LT.lt Nat _ gwM Z.heap.size := G10.lt
  have ltP0 : @LT.lt Nat _ xb h0.size := P0.lt
  refine q_iloadN X0 hx hby d15_0 rfl ?_
  refine q_aloadN X0 hx hby d15_1 rfl rfl ?_
  refine q_len X0 hx hby hZ e0 P0 d15_2 ?_
  refine k_S X0 hx hby hZ hown (wh hw 75 rfl) (wh hw 76 rfl) (W := 0) (own_sci l Z a0 hw [] (1 : Int32) (3 : Int32) h0 n0 O0 gz gfm gwC gwM G (show ¬ (1 : Int32) < (0 : Int32) from (by first | assumption | decide)) (show (1 : Int32) < (3 : Int32) from (by first | assumption | decide))) (wh hw 77 rfl) (wh hw 6 rfl) e0  hml (argsL := [.int 1, .int 3]) (rest := []) own_pd_12 d15_3 (fun _ T2 L2 X2 hQ2 => ?_)
  obtain ⟨Nc2, e2, rfl⟩ := hQ2
  have N2 := Fr.app N0 Nc2
  refine q_aloadN X2 hx hby d15_6 rfl rfl ?_
  refine q_iloadN X2 hx hby d15_7 rfl ?_
  refine q_baloadBytes X2 hx hby hZ e2 P0 d15_8 (.int y1) ?_
  refine q_sipush X2 hx hby d15_9 ?_
  refine q_iand X2 hx hby d15_12 ?_
  refine gg (fun t k => XS.i2c X2.here hx rfl (hb hby d15_13) rfl k) ?_
  show own_Goes p e below (T2.setTop (mkF m 14 #[vR xb, vI 1] [(.int ((y1 &&& (255 : Int32)).toUInt32.toUInt16.toUInt32.toInt32))])) _
  rw [i2c_mask]
  show own_Goes p e below (T2.setTop (mkF m 14 #[vR xb, vI 1] [(.int (y1 &&& (255 : Int32)))])) _
  refine r_C X2 hx hby hret hlk d15_14 e2 ?_ (hn := (congrArg Value.int (i2c_mask _)))
  exact ⟨N2, rfl, rfl⟩
theorem own_ef_own_ca3_1 (m : MethodId) (xa : Addr) : entryFrame m #[.ref xa, .int 1] 2 = mkF m 0 #[vR xa, vI 1] [] := by first | (simp [entryFrame, mkF, argsToLocals, Value.category]; done) | rfl
def Q_own_ca3_1 (Z : State) (xa : Addr) (xt : Addr) (c0 : Int32) (c1 : Int32) (c2 : Int32) (gz : Int32) (gfm : Value) (gwC : Addr) (gwM : Addr) (h0 : Heap) (n0 : Nat) (v : Option Value) (h : Heap) (L : List Loc) : Prop := Fr n0 L ∧ h = h0 ∧ v = some (.int c1)
theorem own_ca3_1 (l : Launch) (Z : State) (a0 : Array Value) (hw : ∀ d ∈ tables_1, d.before a0 Z = true) (ws : List Jvm.Cond) (xa : Addr) (xt : Addr) (c0 : Int32) (c1 : Int32) (c2 : Int32) (h0 : Heap) (n0 : Nat) (O0 : Old Z n0 h0) (gz : Int32) (gfm : Value) (gwC : Addr) (gwM : Addr) (G : GG Z gz gfm gwC gwM) (P0 : own_Str Z h0 xa xt ([c0, c1, c2] : List Int32)) : own_Met l Z (⟨"java/lang/String", "charAt", "(I)C"⟩ : MethodName) jdk_42_method_56_code 2 (some .char) ws ({ frames := 4, cells := 0, slots := 0, locals := 53 } : Room) #[.ref xa, .int 1] h0 (Q_own_ca3_1 Z xa xt c0 c1 c2 gz gfm gwC gwM h0 n0) := by
  refine own_mk (plainFor_of_name own_pn_java_lang_String) O0 ?_
  intro p e s m below meth c s₁ hx hby hml hZ hown hnm hlk hret X0 e0 N0 z0 z1
  refine own_cast (own_ef_own_ca3_1 m xa) ?_
  show own_Goes p e below (s₁.setTop (mkF m 0 #[vR xa, vI 1] [])) _
  obtain ⟨G0, G1, G2, G3, G4, G5, G6, G7, G8, G9, G10, G11⟩ := id G
  have ltG8 : @LT.lt Nat _ gwC Z.heap.size := G8.lt
  have ltG10 : @LT.lt Nat _ gwM Z.heap.size := G10.lt
  have ltP0 : @LT.lt Nat _ xa h0.size := P0.1.lt
  have luP0 : @LT.lt Nat _ xt h0.size := P0.lt2
  obtain ⟨Es1, Vs1, kbs1, cds1, Ns1, vss1, Cs1, As1, hCs1, hbs1, hls1⟩ := id P0
  rcases hCs1 with ⟨rfl, rfl, rfl, hLs1⟩ | ⟨rfl, rfl, rfl, hWs1⟩
  · have Bs1 : Arv Z h0 xt kbs1 .byte (3 : Int32) [(.int (c0.toInt8.toInt32)), (.int (c1.toInt8.toInt32)), (.int (c2.toInt8.toInt32))] (.int 0) := As1
    have Ds1 : Fld Z h0 xa "java/lang/String" "coder" "B" (.int 0) := Cs1
    show own_Goes p e below (s₁.setTop (mkF m 0 #[vR xa, vI 1] [])) _
    refine q_aloadN X0 hx hby d13_0 rfl rfl ?_
    refine k_V X0 hx hby hZ hown (wh hw 66 rfl) (wh hw 67 rfl) (wh hw 69 rfl) (wh hw 68 rfl) (W := 0) (own_isL0 l Z a0 hw [] xa h0 n0 O0 gz gfm gwC gwM G Ds1) (wh hw 70 rfl) (wh hw 6 rfl) e0 Es1  hml (argsL := []) (rest := []) own_pd_14 d13_1 (fun _ T2 L2 X2 hQ2 => ?_)
    obtain ⟨Nc2, e2, rfl⟩ := hQ2
    have N2 := Fr.app N0 Nc2
    refine q_ifNo X2 hx hby d13_4 ((if0 _ _).trans (feq (show ¬ ((1 : Int32) = (0 : Int32)) from by decide)).1) ?_
    refine q_aloadN X2 hx hby d13_7 rfl rfl ?_
    refine qG X2 hx hby hZ hown (wh hw 24 rfl) e2 Vs1 d13_8 (fun T3 X3 e3 => ?_)
    refine q_iloadN X3 hx hby d13_11 rfl ?_
    refine k_S X3 hx hby hZ hown (wh hw 71 rfl) (wh hw 72 rfl) (W := 0) (own_lca3_1 l Z a0 hw [] xt kbs1 (c0.toInt8.toInt32) (c1.toInt8.toInt32) (c2.toInt8.toInt32) h0 n0 O0 gz gfm gwC gwM G Bs1) (wh hw 74 rfl) (wh hw 73 rfl) e3  hml (argsL := [.ref xt, .int 1]) (rest := []) own_pd_5 d13_12 (fun _ T4 L4 X4 hQ4 => ?_)
    obtain ⟨Nc4, e4, rfl⟩ := hQ4
    have N4 := Fr.app N2 Nc4
    show own_Goes p e below (T4.setTop (mkF m 15 #[vR xa, vI 1] [(.int ((c1.toInt8.toInt32) &&& (255 : Int32)))])) _
    rw [show ((c1.toInt8.toInt32) &&& (255 : Int32)) = c1 from own_b8 (hbs1 c1 (by simp)) (hLs1 c1 (by simp))]
    refine r_C X4 hx hby hret hlk d13_15 e4 ?_ (hn := (own_narr16 (hbs1 c1 (by simp))))
    exact ⟨N4, rfl, rfl⟩
  · have Bs1 : Arv Z h0 xt kbs1 .byte (6 : Int32) [(.int (c0.toInt8.toInt32)), (.int ((c0 >>> ((8 : Int32) &&& 31)).toInt8.toInt32)), (.int (c1.toInt8.toInt32)), (.int ((c1 >>> ((8 : Int32) &&& 31)).toInt8.toInt32)), (.int (c2.toInt8.toInt32)), (.int ((c2 >>> ((8 : Int32) &&& 31)).toInt8.toInt32))] (.int 0) := As1
    have Ds1 : Fld Z h0 xa "java/lang/String" "coder" "B" (.int 1) := Cs1
    show own_Goes p e below (s₁.setTop (mkF m 0 #[vR xa, vI 1] [])) _
    refine q_aloadN X0 hx hby d13_0 rfl rfl ?_
    refine k_V X0 hx hby hZ hown (wh hw 66 rfl) (wh hw 67 rfl) (wh hw 69 rfl) (wh hw 68 rfl) (W := 0) (own_isL1 l Z a0 hw [] xa h0 n0 O0 gz gfm gwC gwM G Ds1) (wh hw 70 rfl) (wh hw 6 rfl) e0 Es1  hml (argsL := []) (rest := []) own_pd_14 d13_1 (fun _ T5 L5 X5 hQ5 => ?_)
    obtain ⟨Nc5, e5, rfl⟩ := hQ5
    have N5 := Fr.app N0 Nc5
    refine q_ifYes (pc := 4) X5 hx hby d13_4 (pc' := 16) ((if0 _ _).trans (teq (show ((0 : Int32) = (0 : Int32)) from by decide)).1) (by decide) (by decide) ?_
    refine q_aloadN X5 hx hby d13_16 rfl rfl ?_
    refine qG X5 hx hby hZ hown (wh hw 24 rfl) e5 Vs1 d13_17 (fun T6 X6 e6 => ?_)
    refine q_iloadN X6 hx hby d13_20 rfl ?_
    refine k_S X6 hx hby hZ hown (wh hw 171 rfl) (wh hw 172 rfl) (W := 0) (own_uca3_1 l Z a0 hw [] xt kbs1 (c0.toInt8.toInt32) ((c0 >>> ((8 : Int32) &&& 31)).toInt8.toInt32) (c1.toInt8.toInt32) ((c1 >>> ((8 : Int32) &&& 31)).toInt8.toInt32) (c2.toInt8.toInt32) ((c2 >>> ((8 : Int32) &&& 31)).toInt8.toInt32) h0 n0 O0 gz gfm gwC gwM G Bs1) (wh hw 173 rfl) (wh hw 29 rfl) e6  hml (argsL := [.ref xt, .int 1]) (rest := []) own_pd_5 d13_21 (fun _ T7 L7 X7 hQ7 => ?_)
    obtain ⟨Nc7, e7, rfl⟩ := hQ7
    have N7 := Fr.app N5 Nc7
    show own_Goes p e below (T7.setTop (mkF m 24 #[vR xa, vI 1] [(.int (((((c1.toInt8.toInt32) &&& (255 : Int32)) <<< ((0 : Int32) &&& 31)) ||| ((((c1 >>> ((8 : Int32) &&& 31)).toInt8.toInt32) &&& (255 : Int32)) <<< ((8 : Int32) &&& 31))).toUInt32.toUInt16.toUInt32.toInt32))])) _
    rw [show (((((c1.toInt8.toInt32) &&& (255 : Int32)) <<< ((0 : Int32) &&& 31)) ||| ((((c1 >>> ((8 : Int32) &&& 31)).toInt8.toInt32) &&& (255 : Int32)) <<< ((8 : Int32) &&& 31))).toUInt32.toUInt16.toUInt32.toInt32) = c1 from own_g16 (hbs1 c1 (by simp))]
    refine r_C X7 hx hby hret hlk d13_24 e7 ?_ (hn := (own_narr16 (hbs1 c1 (by simp))))
    exact ⟨N7, rfl, rfl⟩
theorem own_ef_own_uca3_2 (m : MethodId) (xb : Addr) : entryFrame m #[.ref xb, .int 2] 2 = mkF m 0 #[vR xb, vI 2] [] := by first | (simp [entryFrame, mkF, argsToLocals, Value.category]; done) | rfl
def Q_own_uca3_2 (Z : State) (xb : Addr) (xq : ClassId) (y0 : Int32) (y1 : Int32) (y2 : Int32) (y3 : Int32) (y4 : Int32) (y5 : Int32) (gz : Int32) (gfm : Value) (gwC : Addr) (gwM : Addr) (h0 : Heap) (n0 : Nat) (v : Option Value) (h : Heap) (L : List Loc) : Prop := Fr n0 L ∧ h = h0 ∧ v = some (.int ((((y4 &&& (255 : Int32)) <<< ((0 : Int32) &&& 31)) ||| ((y5 &&& (255 : Int32)) <<< ((8 : Int32) &&& 31))).toUInt32.toUInt16.toUInt32.toInt32))
theorem own_uca3_2 (l : Launch) (Z : State) (a0 : Array Value) (hw : ∀ d ∈ tables_1, d.before a0 Z = true) (ws : List Jvm.Cond) (xb : Addr) (xq : ClassId) (y0 : Int32) (y1 : Int32) (y2 : Int32) (y3 : Int32) (y4 : Int32) (y5 : Int32) (h0 : Heap) (n0 : Nat) (O0 : Old Z n0 h0) (gz : Int32) (gfm : Value) (gwC : Addr) (gwM : Addr) (G : GG Z gz gfm gwC gwM) (P0 : Arv Z h0 xb xq .byte (6 : Int32) [.int y0, .int y1, .int y2, .int y3, .int y4, .int y5] (.int 0)) : own_Met l Z (⟨"java/lang/StringUTF16", "charAt", "([BI)C"⟩ : MethodName) jdk_52_method_83_code 2 (some .char) ws ({ frames := 3, cells := 0, slots := 0, locals := 40 } : Room) #[.ref xb, .int 2] h0 (Q_own_uca3_2 Z xb xq y0 y1 y2 y3 y4 y5 gz gfm gwC gwM h0 n0) := by
  refine own_mk (plainFor_of_name own_pn_java_lang_StringUTF16) O0 ?_
  intro p e s m below meth c s₁ hx hby hml hZ hown hnm hlk hret X0 e0 N0 z0 z1
  refine own_cast (own_ef_own_uca3_2 m xb) ?_
  show own_Goes p e below (s₁.setTop (mkF m 0 #[vR xb, vI 2] [])) _
  obtain ⟨G0, G1, G2, G3, G4, G5, G6, G7, G8, G9, G10, G11⟩ := id G
  have ltG8 : @LT.lt Nat _ gwC Z.heap.size := G8.lt
  have ltG10 : @LT.lt Nat _ gwM Z.heap.size := G10.lt
  have ltP0 : @LT.lt Nat _ xb h0.size := P0.lt
  refine q_iloadN X0 hx hby d33_0 rfl ?_
  refine q_aloadN X0 hx hby d33_1 rfl rfl ?_
  refine k_S X0 hx hby hZ hown (wh hw 174 rfl) (wh hw 175 rfl) (W := 0) (own_uci3 l Z a0 hw [] (2 : Int32) xb xq y0 y1 y2 y3 y4 y5 h0 n0 O0 gz gfm gwC gwM G P0 (show ¬ (2 : Int32) < (0 : Int32) from (by first | assumption | decide)) (show (2 : Int32) < (3 : Int32) from (by first | assumption | decide))) (wh hw 176 rfl) (wh hw 29 rfl) e0  hml (argsL := [.int 2, .ref xb]) (rest := []) own_pd_13 d33_2 (fun _ T1 L1 X1 hQ1 => ?_)
  obtain ⟨Nc1, e1, rfl⟩ := hQ1
  have N1 := Fr.app N0 Nc1
  refine q_aloadN X1 hx hby d33_5 rfl rfl ?_
  refine q_iloadN X1 hx hby d33_6 rfl ?_
  refine k_S X1 hx hby hZ hown (wh hw 168 rfl) (wh hw 169 rfl) (W := 0) (own_gc3_2 l Z a0 hw [] xb xq y0 y1 y2 y3 y4 y5 h0 n0 O0 gz gfm gwC gwM G P0) (wh hw 170 rfl) (wh hw 29 rfl) e1  hml (argsL := [.ref xb, .int 2]) (rest := []) own_pd_5 d33_7 (fun _ T2 L2 X2 hQ2 => ?_)
  obtain ⟨Nc2, e2, rfl⟩ := hQ2
  have N2 := Fr.app N1 Nc2
  refine r_C X2 hx hby hret hlk d33_10 e2 ?_ (hn := (own_narr16 (own_C16i _)))
  exact ⟨N2, rfl, rfl⟩
theorem own_ef_own_lca3_2 (m : MethodId) (xb : Addr) : entryFrame m #[.ref xb, .int 2] 2 = mkF m 0 #[vR xb, vI 2] [] := by first | (simp [entryFrame, mkF, argsToLocals, Value.category]; done) | rfl
def Q_own_lca3_2 (Z : State) (xb : Addr) (xq : ClassId) (y0 : Int32) (y1 : Int32) (y2 : Int32) (gz : Int32) (gfm : Value) (gwC : Addr) (gwM : Addr) (h0 : Heap) (n0 : Nat) (v : Option Value) (h : Heap) (L : List Loc) : Prop := Fr n0 L ∧ h = h0 ∧ v = some (.int (y2 &&& (255 : Int32)))
theorem own_lca3_2 (l : Launch) (Z : State) (a0 : Array Value) (hw : ∀ d ∈ tables_1, d.before a0 Z = true) (ws : List Jvm.Cond) (xb : Addr) (xq : ClassId) (y0 : Int32) (y1 : Int32) (y2 : Int32) (h0 : Heap) (n0 : Nat) (O0 : Old Z n0 h0) (gz : Int32) (gfm : Value) (gwC : Addr) (gwM : Addr) (G : GG Z gz gfm gwC gwM) (P0 : Arv Z h0 xb xq .byte (3 : Int32) [.int y0, .int y1, .int y2] (.int 0)) : own_Met l Z (⟨"java/lang/StringLatin1", "charAt", "([BI)C"⟩ : MethodName) jdk_43_method_2_code 2 (some .char) ws ({ frames := 2, cells := 0, slots := 0, locals := 27 } : Room) #[.ref xb, .int 2] h0 (Q_own_lca3_2 Z xb xq y0 y1 y2 gz gfm gwC gwM h0 n0) := by
  refine own_mk (plainFor_of_name own_pn_java_lang_StringLatin1) O0 ?_
  intro p e s m below meth c s₁ hx hby hml hZ hown hnm hlk hret X0 e0 N0 z0 z1
  refine own_cast (own_ef_own_lca3_2 m xb) ?_
  show own_Goes p e below (s₁.setTop (mkF m 0 #[vR xb, vI 2] [])) _
  obtain ⟨G0, G1, G2, G3, G4, G5, G6, G7, G8, G9, G10, G11⟩ := id G
  have ltG8 : @LT.lt Nat _ gwC Z.heap.size := G8.lt
  have ltG10 : @LT.lt Nat _ gwM Z.heap.size := G10.lt
  have ltP0 : @LT.lt Nat _ xb h0.size := P0.lt
  refine q_iloadN X0 hx hby d15_0 rfl ?_
  refine q_aloadN X0 hx hby d15_1 rfl rfl ?_
  refine q_len X0 hx hby hZ e0 P0 d15_2 ?_
  refine k_S X0 hx hby hZ hown (wh hw 75 rfl) (wh hw 76 rfl) (W := 0) (own_sci l Z a0 hw [] (2 : Int32) (3 : Int32) h0 n0 O0 gz gfm gwC gwM G (show ¬ (2 : Int32) < (0 : Int32) from (by first | assumption | decide)) (show (2 : Int32) < (3 : Int32) from (by first | assumption | decide))) (wh hw 77 rfl) (wh hw 6 rfl) e0  hml (argsL := [.int 2, .int 3]) (rest := []) own_pd_12 d15_3 (fun _ T2 L2 X2 hQ2 => ?_)
  obtain ⟨Nc2, e2, rfl⟩ := hQ2
  have N2 := Fr.app N0 Nc2
  refine q_aloadN X2 hx hby d15_6 rfl rfl ?_
  refine q_iloadN X2 hx hby d15_7 rfl ?_
  refine q_baloadBytes X2 hx hby hZ e2 P0 d15_8 (.int y2) ?_
  refine q_sipush X2 hx hby d15_9 ?_
  refine q_iand X2 hx hby d15_12 ?_
  refine gg (fun t k => XS.i2c X2.here hx rfl (hb hby d15_13) rfl k) ?_
  show own_Goes p e below (T2.setTop (mkF m 14 #[vR xb, vI 2] [(.int ((y2 &&& (255 : Int32)).toUInt32.toUInt16.toUInt32.toInt32))])) _
  rw [i2c_mask]
  show own_Goes p e below (T2.setTop (mkF m 14 #[vR xb, vI 2] [(.int (y2 &&& (255 : Int32)))])) _
  refine r_C X2 hx hby hret hlk d15_14 e2 ?_ (hn := (congrArg Value.int (i2c_mask _)))
  exact ⟨N2, rfl, rfl⟩
theorem own_ef_own_ca3_2 (m : MethodId) (xa : Addr) : entryFrame m #[.ref xa, .int 2] 2 = mkF m 0 #[vR xa, vI 2] [] := by first | (simp [entryFrame, mkF, argsToLocals, Value.category]; done) | rfl
def Q_own_ca3_2 (Z : State) (xa : Addr) (xt : Addr) (c0 : Int32) (c1 : Int32) (c2 : Int32) (gz : Int32) (gfm : Value) (gwC : Addr) (gwM : Addr) (h0 : Heap) (n0 : Nat) (v : Option Value) (h : Heap) (L : List Loc) : Prop := Fr n0 L ∧ h = h0 ∧ v = some (.int c2)
theorem own_ca3_2 (l : Launch) (Z : State) (a0 : Array Value) (hw : ∀ d ∈ tables_1, d.before a0 Z = true) (ws : List Jvm.Cond) (xa : Addr) (xt : Addr) (c0 : Int32) (c1 : Int32) (c2 : Int32) (h0 : Heap) (n0 : Nat) (O0 : Old Z n0 h0) (gz : Int32) (gfm : Value) (gwC : Addr) (gwM : Addr) (G : GG Z gz gfm gwC gwM) (P0 : own_Str Z h0 xa xt ([c0, c1, c2] : List Int32)) : own_Met l Z (⟨"java/lang/String", "charAt", "(I)C"⟩ : MethodName) jdk_42_method_56_code 2 (some .char) ws ({ frames := 4, cells := 0, slots := 0, locals := 53 } : Room) #[.ref xa, .int 2] h0 (Q_own_ca3_2 Z xa xt c0 c1 c2 gz gfm gwC gwM h0 n0) := by
  refine own_mk (plainFor_of_name own_pn_java_lang_String) O0 ?_
  intro p e s m below meth c s₁ hx hby hml hZ hown hnm hlk hret X0 e0 N0 z0 z1
  refine own_cast (own_ef_own_ca3_2 m xa) ?_
  show own_Goes p e below (s₁.setTop (mkF m 0 #[vR xa, vI 2] [])) _
  obtain ⟨G0, G1, G2, G3, G4, G5, G6, G7, G8, G9, G10, G11⟩ := id G
  have ltG8 : @LT.lt Nat _ gwC Z.heap.size := G8.lt
  have ltG10 : @LT.lt Nat _ gwM Z.heap.size := G10.lt
  have ltP0 : @LT.lt Nat _ xa h0.size := P0.1.lt
  have luP0 : @LT.lt Nat _ xt h0.size := P0.lt2
  obtain ⟨Es1, Vs1, kbs1, cds1, Ns1, vss1, Cs1, As1, hCs1, hbs1, hls1⟩ := id P0
  rcases hCs1 with ⟨rfl, rfl, rfl, hLs1⟩ | ⟨rfl, rfl, rfl, hWs1⟩
  · have Bs1 : Arv Z h0 xt kbs1 .byte (3 : Int32) [(.int (c0.toInt8.toInt32)), (.int (c1.toInt8.toInt32)), (.int (c2.toInt8.toInt32))] (.int 0) := As1
    have Ds1 : Fld Z h0 xa "java/lang/String" "coder" "B" (.int 0) := Cs1
    show own_Goes p e below (s₁.setTop (mkF m 0 #[vR xa, vI 2] [])) _
    refine q_aloadN X0 hx hby d13_0 rfl rfl ?_
    refine k_V X0 hx hby hZ hown (wh hw 66 rfl) (wh hw 67 rfl) (wh hw 69 rfl) (wh hw 68 rfl) (W := 0) (own_isL0 l Z a0 hw [] xa h0 n0 O0 gz gfm gwC gwM G Ds1) (wh hw 70 rfl) (wh hw 6 rfl) e0 Es1  hml (argsL := []) (rest := []) own_pd_14 d13_1 (fun _ T2 L2 X2 hQ2 => ?_)
    obtain ⟨Nc2, e2, rfl⟩ := hQ2
    have N2 := Fr.app N0 Nc2
    refine q_ifNo X2 hx hby d13_4 ((if0 _ _).trans (feq (show ¬ ((1 : Int32) = (0 : Int32)) from by decide)).1) ?_
    refine q_aloadN X2 hx hby d13_7 rfl rfl ?_
    refine qG X2 hx hby hZ hown (wh hw 24 rfl) e2 Vs1 d13_8 (fun T3 X3 e3 => ?_)
    refine q_iloadN X3 hx hby d13_11 rfl ?_
    refine k_S X3 hx hby hZ hown (wh hw 71 rfl) (wh hw 72 rfl) (W := 0) (own_lca3_2 l Z a0 hw [] xt kbs1 (c0.toInt8.toInt32) (c1.toInt8.toInt32) (c2.toInt8.toInt32) h0 n0 O0 gz gfm gwC gwM G Bs1) (wh hw 74 rfl) (wh hw 73 rfl) e3  hml (argsL := [.ref xt, .int 2]) (rest := []) own_pd_5 d13_12 (fun _ T4 L4 X4 hQ4 => ?_)
    obtain ⟨Nc4, e4, rfl⟩ := hQ4
    have N4 := Fr.app N2 Nc4
    show own_Goes p e below (T4.setTop (mkF m 15 #[vR xa, vI 2] [(.int ((c2.toInt8.toInt32) &&& (255 : Int32)))])) _
    rw [show ((c2.toInt8.toInt32) &&& (255 : Int32)) = c2 from own_b8 (hbs1 c2 (by simp)) (hLs1 c2 (by simp))]
    refine r_C X4 hx hby hret hlk d13_15 e4 ?_ (hn := (own_narr16 (hbs1 c2 (by simp))))
    exact ⟨N4, rfl, rfl⟩
  · have Bs1 : Arv Z h0 xt kbs1 .byte (6 : Int32) [(.int (c0.toInt8.toInt32)), (.int ((c0 >>> ((8 : Int32) &&& 31)).toInt8.toInt32)), (.int (c1.toInt8.toInt32)), (.int ((c1 >>> ((8 : Int32) &&& 31)).toInt8.toInt32)), (.int (c2.toInt8.toInt32)), (.int ((c2 >>> ((8 : Int32) &&& 31)).toInt8.toInt32))] (.int 0) := As1
    have Ds1 : Fld Z h0 xa "java/lang/String" "coder" "B" (.int 1) := Cs1
    show own_Goes p e below (s₁.setTop (mkF m 0 #[vR xa, vI 2] [])) _
    refine q_aloadN X0 hx hby d13_0 rfl rfl ?_
    refine k_V X0 hx hby hZ hown (wh hw 66 rfl) (wh hw 67 rfl) (wh hw 69 rfl) (wh hw 68 rfl) (W := 0) (own_isL1 l Z a0 hw [] xa h0 n0 O0 gz gfm gwC gwM G Ds1) (wh hw 70 rfl) (wh hw 6 rfl) e0 Es1  hml (argsL := []) (rest := []) own_pd_14 d13_1 (fun _ T5 L5 X5 hQ5 => ?_)
    obtain ⟨Nc5, e5, rfl⟩ := hQ5
    have N5 := Fr.app N0 Nc5
    refine q_ifYes (pc := 4) X5 hx hby d13_4 (pc' := 16) ((if0 _ _).trans (teq (show ((0 : Int32) = (0 : Int32)) from by decide)).1) (by decide) (by decide) ?_
    refine q_aloadN X5 hx hby d13_16 rfl rfl ?_
    refine qG X5 hx hby hZ hown (wh hw 24 rfl) e5 Vs1 d13_17 (fun T6 X6 e6 => ?_)
    refine q_iloadN X6 hx hby d13_20 rfl ?_
    refine k_S X6 hx hby hZ hown (wh hw 171 rfl) (wh hw 172 rfl) (W := 0) (own_uca3_2 l Z a0 hw [] xt kbs1 (c0.toInt8.toInt32) ((c0 >>> ((8 : Int32) &&& 31)).toInt8.toInt32) (c1.toInt8.toInt32) ((c1 >>> ((8 : Int32) &&& 31)).toInt8.toInt32) (c2.toInt8.toInt32) ((c2 >>> ((8 : Int32) &&& 31)).toInt8.toInt32) h0 n0 O0 gz gfm gwC gwM G Bs1) (wh hw 173 rfl) (wh hw 29 rfl) e6  hml (argsL := [.ref xt, .int 2]) (rest := []) own_pd_5 d13_21 (fun _ T7 L7 X7 hQ7 => ?_)
    obtain ⟨Nc7, e7, rfl⟩ := hQ7
    have N7 := Fr.app N5 Nc7
    show own_Goes p e below (T7.setTop (mkF m 24 #[vR xa, vI 2] [(.int (((((c2.toInt8.toInt32) &&& (255 : Int32)) <<< ((0 : Int32) &&& 31)) ||| ((((c2 >>> ((8 : Int32) &&& 31)).toInt8.toInt32) &&& (255 : Int32)) <<< ((8 : Int32) &&& 31))).toUInt32.toUInt16.toUInt32.toInt32))])) _
    rw [show (((((c2.toInt8.toInt32) &&& (255 : Int32)) <<< ((0 : Int32) &&& 31)) ||| ((((c2 >>> ((8 : Int32) &&& 31)).toInt8.toInt32) &&& (255 : Int32)) <<< ((8 : Int32) &&& 31))).toUInt32.toUInt16.toUInt32.toInt32) = c2 from own_g16 (hbs1 c2 (by simp))]
    refine r_C X7 hx hby hret hlk d13_24 e7 ?_ (hn := (own_narr16 (hbs1 c2 (by simp))))
    exact ⟨N7, rfl, rfl⟩
theorem own_k1 : (55296 : Int32).toInt = 55296 := by decide
theorem own_k2 : (56319 : Int32).toInt = 56319 := by decide
theorem own_k3 : (56320 : Int32).toInt = 56320 := by decide
theorem own_k4 : (57343 : Int32).toInt = 57343 := by decide
theorem own_k5 : (57344 : Int32).toInt = 57344 := by decide
def own_hi (c : Int32) : Int32 := if c < (55296 : Int32) then 0 else if (56319 : Int32) < c then 0 else 1
theorem own_hi_1 {c : Int32} (h : c < (55296 : Int32)) : own_hi c = 0 := if_pos h
theorem own_hi_2 {c : Int32} (h : ¬ c < (55296 : Int32)) (g : (56319 : Int32) < c) : own_hi c = 0 := (if_neg h).trans (if_pos g)
theorem own_hi_3 {c : Int32} (h : ¬ c < (55296 : Int32)) (g : ¬ (56319 : Int32) < c) : own_hi c = 1 := (if_neg h).trans (if_neg g)
theorem own_hiB (c : Int32) : (own_hi c = 0 ∧ (c.toInt < 55296 ∨ 56319 < c.toInt)) ∨ (own_hi c = 1 ∧ (55296 ≤ c.toInt ∧ c.toInt ≤ 56319)) := by
  have := own_k1; have := own_k2; have := own_k3; have := own_k4; have := own_k5
  by_cases h : c < (55296 : Int32)
  · refine Or.inl ⟨own_hi_1 h, ?_⟩
    rw [Int32.lt_iff_toInt_lt] at h
    omega
  · by_cases g : (56319 : Int32) < c
    · refine Or.inl ⟨own_hi_2 h g, ?_⟩
      rw [Int32.lt_iff_toInt_lt] at h g
      omega
    · refine Or.inr ⟨own_hi_3 h g, ?_⟩
      rw [Int32.lt_iff_toInt_lt] at h g
      omega
theorem own_hiF {c : Int32} (h : own_hi c = 0) : (c.toInt < 55296 ∨ 56319 < c.toInt) := by
  rcases own_hiB c with ⟨-, q⟩ | ⟨q, -⟩
  · exact q
  · rw [q] at h; exact absurd h (by decide)
theorem own_hiT {c : Int32} (h : ¬ own_hi c = 0) : (55296 ≤ c.toInt ∧ c.toInt ≤ 56319) := by
  rcases own_hiB c with ⟨q, -⟩ | ⟨-, q⟩
  · exact absurd q h
  · exact q
theorem own_hiN {c : Int32} (h : (55296 ≤ c.toInt ∧ c.toInt ≤ 56319)) : ¬ own_hi c = 0 := by
  rcases own_hiB c with ⟨-, q⟩ | ⟨q, -⟩
  · omega
  · rw [q]; decide
theorem own_hiZ {c : Int32} (h : (c.toInt < 55296 ∨ 56319 < c.toInt)) : own_hi c = 0 := by
  rcases own_hiB c with ⟨q, -⟩ | ⟨-, q⟩
  · exact q
  · omega
def own_lo (c : Int32) : Int32 := if c < (56320 : Int32) then 0 else if (57343 : Int32) < c then 0 else 1
theorem own_lo_1 {c : Int32} (h : c < (56320 : Int32)) : own_lo c = 0 := if_pos h
theorem own_lo_2 {c : Int32} (h : ¬ c < (56320 : Int32)) (g : (57343 : Int32) < c) : own_lo c = 0 := (if_neg h).trans (if_pos g)
theorem own_lo_3 {c : Int32} (h : ¬ c < (56320 : Int32)) (g : ¬ (57343 : Int32) < c) : own_lo c = 1 := (if_neg h).trans (if_neg g)
theorem own_loB (c : Int32) : (own_lo c = 0 ∧ (c.toInt < 56320 ∨ 57343 < c.toInt)) ∨ (own_lo c = 1 ∧ (56320 ≤ c.toInt ∧ c.toInt ≤ 57343)) := by
  have := own_k1; have := own_k2; have := own_k3; have := own_k4; have := own_k5
  by_cases h : c < (56320 : Int32)
  · refine Or.inl ⟨own_lo_1 h, ?_⟩
    rw [Int32.lt_iff_toInt_lt] at h
    omega
  · by_cases g : (57343 : Int32) < c
    · refine Or.inl ⟨own_lo_2 h g, ?_⟩
      rw [Int32.lt_iff_toInt_lt] at h g
      omega
    · refine Or.inr ⟨own_lo_3 h g, ?_⟩
      rw [Int32.lt_iff_toInt_lt] at h g
      omega
theorem own_loF {c : Int32} (h : own_lo c = 0) : (c.toInt < 56320 ∨ 57343 < c.toInt) := by
  rcases own_loB c with ⟨-, q⟩ | ⟨q, -⟩
  · exact q
  · rw [q] at h; exact absurd h (by decide)
theorem own_loT {c : Int32} (h : ¬ own_lo c = 0) : (56320 ≤ c.toInt ∧ c.toInt ≤ 57343) := by
  rcases own_loB c with ⟨q, -⟩ | ⟨-, q⟩
  · exact absurd q h
  · exact q
theorem own_loN {c : Int32} (h : (56320 ≤ c.toInt ∧ c.toInt ≤ 57343)) : ¬ own_lo c = 0 := by
  rcases own_loB c with ⟨-, q⟩ | ⟨q, -⟩
  · omega
  · rw [q]; decide
theorem own_loZ {c : Int32} (h : (c.toInt < 56320 ∨ 57343 < c.toInt)) : own_lo c = 0 := by
  rcases own_loB c with ⟨q, -⟩ | ⟨-, q⟩
  · exact q
  · omega
def own_su (c : Int32) : Int32 := if c < (55296 : Int32) then 0 else if c < (57344 : Int32) then 1 else 0
theorem own_su_1 {c : Int32} (h : c < (55296 : Int32)) : own_su c = 0 := if_pos h
theorem own_su_2 {c : Int32} (h : ¬ c < (55296 : Int32)) (g : c < (57344 : Int32)) : own_su c = 1 := (if_neg h).trans (if_pos g)
theorem own_su_3 {c : Int32} (h : ¬ c < (55296 : Int32)) (g : ¬ c < (57344 : Int32)) : own_su c = 0 := (if_neg h).trans (if_neg g)
theorem own_suB (c : Int32) : (own_su c = 0 ∧ (c.toInt < 55296 ∨ 57343 < c.toInt)) ∨ (own_su c = 1 ∧ (55296 ≤ c.toInt ∧ c.toInt ≤ 57343)) := by
  have := own_k1; have := own_k2; have := own_k3; have := own_k4; have := own_k5
  by_cases h : c < (55296 : Int32)
  · refine Or.inl ⟨own_su_1 h, ?_⟩
    rw [Int32.lt_iff_toInt_lt] at h
    omega
  · by_cases g : c < (57344 : Int32)
    · refine Or.inr ⟨own_su_2 h g, ?_⟩
      rw [Int32.lt_iff_toInt_lt] at h g
      omega
    · refine Or.inl ⟨own_su_3 h g, ?_⟩
      rw [Int32.lt_iff_toInt_lt] at h g
      omega
theorem own_suF {c : Int32} (h : own_su c = 0) : (c.toInt < 55296 ∨ 57343 < c.toInt) := by
  rcases own_suB c with ⟨-, q⟩ | ⟨q, -⟩
  · exact q
  · rw [q] at h; exact absurd h (by decide)
theorem own_suT {c : Int32} (h : ¬ own_su c = 0) : (55296 ≤ c.toInt ∧ c.toInt ≤ 57343) := by
  rcases own_suB c with ⟨q, -⟩ | ⟨-, q⟩
  · exact absurd q h
  · exact q
theorem own_suN {c : Int32} (h : (55296 ≤ c.toInt ∧ c.toInt ≤ 57343)) : ¬ own_su c = 0 := by
  rcases own_suB c with ⟨-, q⟩ | ⟨q, -⟩
  · omega
  · rw [q]; decide
theorem own_suZ {c : Int32} (h : (c.toInt < 55296 ∨ 57343 < c.toInt)) : own_su c = 0 := by
  rcases own_suB c with ⟨q, -⟩ | ⟨-, q⟩
  · exact q
  · omega
def own_hs (c : Int32) : Int32 := if c < (55296 : Int32) then 0 else if c < (56320 : Int32) then 1 else 0
theorem own_hs_1 {c : Int32} (h : c < (55296 : Int32)) : own_hs c = 0 := if_pos h
theorem own_hs_2 {c : Int32} (h : ¬ c < (55296 : Int32)) (g : c < (56320 : Int32)) : own_hs c = 1 := (if_neg h).trans (if_pos g)
theorem own_hs_3 {c : Int32} (h : ¬ c < (55296 : Int32)) (g : ¬ c < (56320 : Int32)) : own_hs c = 0 := (if_neg h).trans (if_neg g)
theorem own_hsB (c : Int32) : (own_hs c = 0 ∧ (c.toInt < 55296 ∨ 56319 < c.toInt)) ∨ (own_hs c = 1 ∧ (55296 ≤ c.toInt ∧ c.toInt ≤ 56319)) := by
  have := own_k1; have := own_k2; have := own_k3; have := own_k4; have := own_k5
  by_cases h : c < (55296 : Int32)
  · refine Or.inl ⟨own_hs_1 h, ?_⟩
    rw [Int32.lt_iff_toInt_lt] at h
    omega
  · by_cases g : c < (56320 : Int32)
    · refine Or.inr ⟨own_hs_2 h g, ?_⟩
      rw [Int32.lt_iff_toInt_lt] at h g
      omega
    · refine Or.inl ⟨own_hs_3 h g, ?_⟩
      rw [Int32.lt_iff_toInt_lt] at h g
      omega
theorem own_hsF {c : Int32} (h : own_hs c = 0) : (c.toInt < 55296 ∨ 56319 < c.toInt) := by
  rcases own_hsB c with ⟨-, q⟩ | ⟨q, -⟩
  · exact q
  · rw [q] at h; exact absurd h (by decide)
theorem own_hsT {c : Int32} (h : ¬ own_hs c = 0) : (55296 ≤ c.toInt ∧ c.toInt ≤ 56319) := by
  rcases own_hsB c with ⟨q, -⟩ | ⟨-, q⟩
  · exact absurd q h
  · exact q
theorem own_hsN {c : Int32} (h : (55296 ≤ c.toInt ∧ c.toInt ≤ 56319)) : ¬ own_hs c = 0 := by
  rcases own_hsB c with ⟨-, q⟩ | ⟨q, -⟩
  · omega
  · rw [q]; decide
theorem own_hsZ {c : Int32} (h : (c.toInt < 55296 ∨ 56319 < c.toInt)) : own_hs c = 0 := by
  rcases own_hsB c with ⟨q, -⟩ | ⟨-, q⟩
  · exact q
  · omega
def own_ls (c : Int32) : Int32 := if c < (56320 : Int32) then 0 else if c < (57344 : Int32) then 1 else 0
theorem own_ls_1 {c : Int32} (h : c < (56320 : Int32)) : own_ls c = 0 := if_pos h
theorem own_ls_2 {c : Int32} (h : ¬ c < (56320 : Int32)) (g : c < (57344 : Int32)) : own_ls c = 1 := (if_neg h).trans (if_pos g)
theorem own_ls_3 {c : Int32} (h : ¬ c < (56320 : Int32)) (g : ¬ c < (57344 : Int32)) : own_ls c = 0 := (if_neg h).trans (if_neg g)
theorem own_lsB (c : Int32) : (own_ls c = 0 ∧ (c.toInt < 56320 ∨ 57343 < c.toInt)) ∨ (own_ls c = 1 ∧ (56320 ≤ c.toInt ∧ c.toInt ≤ 57343)) := by
  have := own_k1; have := own_k2; have := own_k3; have := own_k4; have := own_k5
  by_cases h : c < (56320 : Int32)
  · refine Or.inl ⟨own_ls_1 h, ?_⟩
    rw [Int32.lt_iff_toInt_lt] at h
    omega
  · by_cases g : c < (57344 : Int32)
    · refine Or.inr ⟨own_ls_2 h g, ?_⟩
      rw [Int32.lt_iff_toInt_lt] at h g
      omega
    · refine Or.inl ⟨own_ls_3 h g, ?_⟩
      rw [Int32.lt_iff_toInt_lt] at h g
      omega
theorem own_lsF {c : Int32} (h : own_ls c = 0) : (c.toInt < 56320 ∨ 57343 < c.toInt) := by
  rcases own_lsB c with ⟨-, q⟩ | ⟨q, -⟩
  · exact q
  · rw [q] at h; exact absurd h (by decide)
theorem own_lsT {c : Int32} (h : ¬ own_ls c = 0) : (56320 ≤ c.toInt ∧ c.toInt ≤ 57343) := by
  rcases own_lsB c with ⟨q, -⟩ | ⟨-, q⟩
  · exact absurd q h
  · exact q
theorem own_lsN {c : Int32} (h : (56320 ≤ c.toInt ∧ c.toInt ≤ 57343)) : ¬ own_ls c = 0 := by
  rcases own_lsB c with ⟨-, q⟩ | ⟨q, -⟩
  · omega
  · rw [q]; decide
theorem own_lsZ {c : Int32} (h : (c.toInt < 56320 ∨ 57343 < c.toInt)) : own_ls c = 0 := by
  rcases own_lsB c with ⟨q, -⟩ | ⟨-, q⟩
  · exact q
  · omega
theorem own_ne0 {c : Int32} (h : ¬ c.toInt = 0) : ¬ c = 0 := fun q => h (by rw [q]; decide)
theorem own_ne0' {c : Int32} (h : ¬ c = 0) : ¬ c.toInt = 0 := fun q => h (own_eqJ (by rw [q]; decide))
theorem d18_0 : decode B18 0 = .ok (.iload_n 0, 1) := by decide +kernel
theorem d18_1 : decode B18 1 = .ok (.ldc 75, 2) := by decide +kernel
theorem d18_3 : decode B18 3 = .ok (.if_icmp .lt 13, 3) := by decide +kernel
theorem d18_16 : decode B18 16 = .ok (.iconst 0, 1) := by decide +kernel
theorem d18_17 : decode B18 17 = .ok (.ireturn, 1) := by decide +kernel
theorem d18_6 : decode B18 6 = .ok (.iload_n 0, 1) := by decide +kernel
theorem d18_7 : decode B18 7 = .ok (.ldc 77, 2) := by decide +kernel
theorem d18_9 : decode B18 9 = .ok (.if_icmp .ge 7, 3) := by decide +kernel
theorem d18_12 : decode B18 12 = .ok (.iconst 1, 1) := by decide +kernel
theorem d18_13 : decode B18 13 = .ok (.goto 4, 3) := by decide +kernel
theorem own_pn_java_lang_Character : plainName "java/lang/Character" = true := by first | (simp [plainName, overriddenIn]; done) | decide +kernel
theorem own_ef_own_suC (m : MethodId) (xi : Int32) : entryFrame m #[.int xi] 1 = mkF m 0 #[vI xi] [] := by first | (simp [entryFrame, mkF, argsToLocals, Value.category]; done) | rfl
def Q_own_suC (Z : State) (xi : Int32) (h0 : Heap) (n0 : Nat) (v : Option Value) (h : Heap) (L : List Loc) : Prop := Fr n0 L ∧ h = h0 ∧ v = some (.int (own_su xi))
theorem own_suC (l : Launch) (Z : State) (a0 : Array Value) (hw : ∀ d ∈ tables_1, d.before a0 Z = true) (ws : List Jvm.Cond) (xi : Int32) (h0 : Heap) (n0 : Nat) (O0 : Old Z n0 h0) : own_Met l Z (⟨"java/lang/Character", "isSurrogate", "(C)Z"⟩ : MethodName) jdk_89_method_16_code 1 (some .boolean) ws ({ frames := 0, cells := 0, slots := 0, locals := 0 } : Room) #[.int xi] h0 (Q_own_suC Z xi h0 n0) := by
  refine own_mk (plainFor_of_name own_pn_java_lang_Character) O0 ?_
  intro p e s m below meth c s₁ hx hby hml hZ hown hnm hlk hret X0 e0 N0 z0 z1
  refine own_cast (own_ef_own_suC m xi) ?_
  show own_Goes p e below (s₁.setTop (mkF m 0 #[vI xi] [])) _
  refine q_iloadN X0 hx hby d18_0 rfl ?_
  refine gg (fun t k => Jvm.Stand.ldcI X0 hx hown (mv hZ (wh hw 87 rfl)) rfl (hb hby d18_1) k) ?_
  by_cases hc1 : xi < (55296 : Int32)
  · refine q_icmpYes (pc := 3) X0 hx hby d18_3 (pc' := 16) (tlt hc1).1 (by decide) (by decide) ?_
    refine q_iconst X0 hx hby d18_16 ?_
    refine r_Z X0 hx hby hret hlk d18_17 e0 ?_
    exact ⟨N0, rfl, (by rw [own_su_1 hc1] <;> rfl)⟩
  · refine q_icmpNo X0 hx hby d18_3 (flt hc1).1 ?_
    refine q_iloadN X0 hx hby d18_6 rfl ?_
    refine gg (fun t k => Jvm.Stand.ldcI X0 hx hown (mv hZ (wh hw 181 rfl)) rfl (hb hby d18_7) k) ?_
    by_cases hc2 : xi < (57344 : Int32)
    · refine q_icmpNo X0 hx hby d18_9 (tlt hc2).2.1 ?_
      refine q_iconst X0 hx hby d18_12 ?_
      refine q_goto (pc := 13) X0 hx hby d18_13 (pc' := 17) (by decide) (by decide) ?_
      refine r_Z X0 hx hby hret hlk d18_17 e0 ?_
      exact ⟨N0, rfl, (by rw [own_su_2 hc1 hc2] <;> rfl)⟩
    · refine q_icmpYes (pc := 9) X0 hx hby d18_9 (pc' := 16) (flt hc2).2.1 (by decide) (by decide) ?_
      refine q_iconst X0 hx hby d18_16 ?_
      refine r_Z X0 hx hby hret hlk d18_17 e0 ?_
      exact ⟨N0, rfl, (by rw [own_su_3 hc1 hc2] <;> rfl)⟩
theorem d36_0 : decode B36 0 = .ok (.iload_n 0, 1) := by decide +kernel
theorem d36_1 : decode B36 1 = .ok (.ldc 75, 2) := by decide +kernel
theorem d36_3 : decode B36 3 = .ok (.if_icmp .lt 13, 3) := by decide +kernel
theorem d36_16 : decode B36 16 = .ok (.iconst 0, 1) := by decide +kernel
theorem d36_17 : decode B36 17 = .ok (.ireturn, 1) := by decide +kernel
theorem d36_6 : decode B36 6 = .ok (.iload_n 0, 1) := by decide +kernel
theorem d36_7 : decode B36 7 = .ok (.ldc 76, 2) := by decide +kernel
theorem d36_9 : decode B36 9 = .ok (.if_icmp .ge 7, 3) := by decide +kernel
theorem d36_12 : decode B36 12 = .ok (.iconst 1, 1) := by decide +kernel
theorem d36_13 : decode B36 13 = .ok (.goto 4, 3) := by decide +kernel
theorem own_ef_own_hsC (m : MethodId) (xi : Int32) : entryFrame m #[.int xi] 1 = mkF m 0 #[vI xi] [] := by first | (simp [entryFrame, mkF, argsToLocals, Value.category]; done) | rfl
def Q_own_hsC (Z : State) (xi : Int32) (h0 : Heap) (n0 : Nat) (v : Option Value) (h : Heap) (L : List Loc) : Prop := Fr n0 L ∧ h = h0 ∧ v = some (.int (own_hs xi))
theorem own_hsC (l : Launch) (Z : State) (a0 : Array Value) (hw : ∀ d ∈ tables_1, d.before a0 Z = true) (ws : List Jvm.Cond) (xi : Int32) (h0 : Heap) (n0 : Nat) (O0 : Old Z n0 h0) : own_Met l Z (⟨"java/lang/Character", "isHighSurrogate", "(C)Z"⟩ : MethodName) jdk_89_method_14_code 1 (some .boolean) ws ({ frames := 0, cells := 0, slots := 0, locals := 0 } : Room) #[.int xi] h0 (Q_own_hsC Z xi h0 n0) := by
  refine own_mk (plainFor_of_name own_pn_java_lang_Character) O0 ?_
  intro p e s m below meth c s₁ hx hby hml hZ hown hnm hlk hret X0 e0 N0 z0 z1
  refine own_cast (own_ef_own_hsC m xi) ?_
  show own_Goes p e below (s₁.setTop (mkF m 0 #[vI xi] [])) _
  refine q_iloadN X0 hx hby d36_0 rfl ?_
  refine gg (fun t k => Jvm.Stand.ldcI X0 hx hown (mv hZ (wh hw 87 rfl)) rfl (hb hby d36_1) k) ?_
  by_cases hc1 : xi < (55296 : Int32)
  · refine q_icmpYes (pc := 3) X0 hx hby d36_3 (pc' := 16) (tlt hc1).1 (by decide) (by decide) ?_
    refine q_iconst X0 hx hby d36_16 ?_
    refine r_Z X0 hx hby hret hlk d36_17 e0 ?_
    exact ⟨N0, rfl, (by rw [own_hs_1 hc1] <;> rfl)⟩
  · refine q_icmpNo X0 hx hby d36_3 (flt hc1).1 ?_
    refine q_iloadN X0 hx hby d36_6 rfl ?_
    refine gg (fun t k => Jvm.Stand.ldcI X0 hx hown (mv hZ (wh hw 185 rfl)) rfl (hb hby d36_7) k) ?_
    by_cases hc2 : xi < (56320 : Int32)
    · refine q_icmpNo X0 hx hby d36_9 (tlt hc2).2.1 ?_
      refine q_iconst X0 hx hby d36_12 ?_
      refine q_goto (pc := 13) X0 hx hby d36_13 (pc' := 17) (by decide) (by decide) ?_
      refine r_Z X0 hx hby hret hlk d36_17 e0 ?_
      exact ⟨N0, rfl, (by rw [own_hs_2 hc1 hc2] <;> rfl)⟩
    · refine q_icmpYes (pc := 9) X0 hx hby d36_9 (pc' := 16) (flt hc2).2.1 (by decide) (by decide) ?_
      refine q_iconst X0 hx hby d36_16 ?_
      refine r_Z X0 hx hby hret hlk d36_17 e0 ?_
      exact ⟨N0, rfl, (by rw [own_hs_3 hc1 hc2] <;> rfl)⟩
theorem d37_0 : decode B37 0 = .ok (.iload_n 0, 1) := by decide +kernel
theorem d37_1 : decode B37 1 = .ok (.ldc 76, 2) := by decide +kernel
theorem d37_3 : decode B37 3 = .ok (.if_icmp .lt 13, 3) := by decide +kernel
theorem d37_16 : decode B37 16 = .ok (.iconst 0, 1) := by decide +kernel
theorem d37_17 : decode B37 17 = .ok (.ireturn, 1) := by decide +kernel
theorem d37_6 : decode B37 6 = .ok (.iload_n 0, 1) := by decide +kernel
theorem d37_7 : decode B37 7 = .ok (.ldc 77, 2) := by decide +kernel
theorem d37_9 : decode B37 9 = .ok (.if_icmp .ge 7, 3) := by decide +kernel
theorem d37_12 : decode B37 12 = .ok (.iconst 1, 1) := by decide +kernel
theorem d37_13 : decode B37 13 = .ok (.goto 4, 3) := by decide +kernel
theorem own_ef_own_lsC (m : MethodId) (xi : Int32) : entryFrame m #[.int xi] 1 = mkF m 0 #[vI xi] [] := by first | (simp [entryFrame, mkF, argsToLocals, Value.category]; done) | rfl
def Q_own_lsC (Z : State) (xi : Int32) (h0 : Heap) (n0 : Nat) (v : Option Value) (h : Heap) (L : List Loc) : Prop := Fr n0 L ∧ h = h0 ∧ v = some (.int (own_ls xi))
theorem own_lsC (l : Launch) (Z : State) (a0 : Array Value) (hw : ∀ d ∈ tables_1, d.before a0 Z = true) (ws : List Jvm.Cond) (xi : Int32) (h0 : Heap) (n0 : Nat) (O0 : Old Z n0 h0) : own_Met l Z (⟨"java/lang/Character", "isLowSurrogate", "(C)Z"⟩ : MethodName) jdk_89_method_15_code 1 (some .boolean) ws ({ frames := 0, cells := 0, slots := 0, locals := 0 } : Room) #[.int xi] h0 (Q_own_lsC Z xi h0 n0) := by
  refine own_mk (plainFor_of_name own_pn_java_lang_Character) O0 ?_
  intro p e s m below meth c s₁ hx hby hml hZ hown hnm hlk hret X0 e0 N0 z0 z1
  refine own_cast (own_ef_own_lsC m xi) ?_
  show own_Goes p e below (s₁.setTop (mkF m 0 #[vI xi] [])) _
  refine q_iloadN X0 hx hby d37_0 rfl ?_
  refine gg (fun t k => Jvm.Stand.ldcI X0 hx hown (mv hZ (wh hw 185 rfl)) rfl (hb hby d37_1) k) ?_
  by_cases hc1 : xi < (56320 : Int32)
  · refine q_icmpYes (pc := 3) X0 hx hby d37_3 (pc' := 16) (tlt hc1).1 (by decide) (by decide) ?_
    refine q_iconst X0 hx hby d37_16 ?_
    refine r_Z X0 hx hby hret hlk d37_17 e0 ?_
    exact ⟨N0, rfl, (by rw [own_ls_1 hc1] <;> rfl)⟩
  · refine q_icmpNo X0 hx hby d37_3 (flt hc1).1 ?_
    refine q_iloadN X0 hx hby d37_6 rfl ?_
    refine gg (fun t k => Jvm.Stand.ldcI X0 hx hown (mv hZ (wh hw 181 rfl)) rfl (hb hby d37_7) k) ?_
    by_cases hc2 : xi < (57344 : Int32)
    · refine q_icmpNo X0 hx hby d37_9 (tlt hc2).2.1 ?_
      refine q_iconst X0 hx hby d37_12 ?_
      refine q_goto (pc := 13) X0 hx hby d37_13 (pc' := 17) (by decide) (by decide) ?_
      refine r_Z X0 hx hby hret hlk d37_17 e0 ?_
      exact ⟨N0, rfl, (by rw [own_ls_2 hc1 hc2] <;> rfl)⟩
    · refine q_icmpYes (pc := 9) X0 hx hby d37_9 (pc' := 16) (flt hc2).2.1 (by decide) (by decide) ?_
      refine q_iconst X0 hx hby d37_16 ?_
      refine r_Z X0 hx hby hret hlk d37_17 e0 ?_
      exact ⟨N0, rfl, (by rw [own_ls_3 hc1 hc2] <;> rfl)⟩
def own_Ok (cs : List Int32) : Prop := cs = [] ∨ (∃ c0, cs = [c0] ∧ (¬ c0.toInt = 0 ∧ ((c0.toInt < 55296 ∨ 56319 < c0.toInt)) ∧ ((c0.toInt < 56320 ∨ 57343 < c0.toInt)))) ∨ (∃ c0 c1, cs = [c0, c1] ∧ (¬ c0.toInt = 0 ∧ ((c0.toInt < 55296 ∨ 56319 < c0.toInt) ∨ (56320 ≤ c1.toInt ∧ c1.toInt ≤ 57343)) ∧ ((c0.toInt < 56320 ∨ 57343 < c0.toInt))) ∧ (¬ c1.toInt = 0 ∧ ((c1.toInt < 55296 ∨ 56319 < c1.toInt)) ∧ ((c1.toInt < 56320 ∨ 57343 < c1.toInt) ∨ (55296 ≤ c0.toInt ∧ c0.toInt ≤ 56319)))) ∨ (∃ c0 c1 c2, cs = [c0, c1, c2] ∧ (¬ c0.toInt = 0 ∧ ((c0.toInt < 55296 ∨ 56319 < c0.toInt) ∨ (56320 ≤ c1.toInt ∧ c1.toInt ≤ 57343)) ∧ ((c0.toInt < 56320 ∨ 57343 < c0.toInt))) ∧ (¬ c1.toInt = 0 ∧ ((c1.toInt < 55296 ∨ 56319 < c1.toInt) ∨ (56320 ≤ c2.toInt ∧ c2.toInt ≤ 57343)) ∧ ((c1.toInt < 56320 ∨ 57343 < c1.toInt) ∨ (55296 ≤ c0.toInt ∧ c0.toInt ≤ 56319))) ∧ (¬ c2.toInt = 0 ∧ ((c2.toInt < 55296 ∨ 56319 < c2.toInt)) ∧ ((c2.toInt < 56320 ∨ 57343 < c2.toInt) ∨ (55296 ≤ c1.toInt ∧ c1.toInt ≤ 56319))))
theorem own_C16m {c : Int32} (h : 0 ≤ c.toInt) (g : c.toInt ≤ 65535) : own_C16 c := by
  have := own_e0; have := own_e65
  exact ⟨by rw [Int32.lt_iff_toInt_lt]; omega, by rw [Int32.lt_iff_toInt_lt]; omega⟩
theorem own_r1 (x : Int32) : ∃ z : Int32, 1 ≤ z.toInt ∧ z.toInt ≤ 256 ∧ (((1 : Int32) + (x &&& (255 : Int32))).toUInt32.toUInt16.toUInt32.toInt32) = z := by
  refine ⟨_, ?_, ?_, rfl⟩ <;>
  · have q := c_and x 255 (by decide)
    have q1 := c_iadd 1 (x &&& (255 : Int32))
    have q2 := c_i2c ((1 : Int32) + (x &&& (255 : Int32)))
    have q3 := rng32 ((1 : Int32) + (x &&& (255 : Int32)))
    have e1 : (1 : Int32).toInt = 1 := by decide
    have := own_e255
    omega
theorem own_rh (x : Int32) : ∃ z : Int32, 55296 ≤ z.toInt ∧ z.toInt ≤ 55303 ∧ (((55296 : Int32) + (x &&& (7 : Int32))).toUInt32.toUInt16.toUInt32.toInt32) = z := by
  refine ⟨_, ?_, ?_, rfl⟩ <;>
  · have q := c_and x 7 (by decide)
    have q1 := c_iadd 55296 (x &&& (7 : Int32))
    have q2 := c_i2c ((55296 : Int32) + (x &&& (7 : Int32)))
    have q3 := rng32 ((55296 : Int32) + (x &&& (7 : Int32)))
    have e1 : (55296 : Int32).toInt = 55296 := by decide
    have e2 : (7 : Int32).toInt = 7 := by decide
    omega
theorem own_rl (x : Int32) : ∃ z : Int32, 56320 ≤ z.toInt ∧ z.toInt ≤ 56323 ∧ (((56320 : Int32) + (x &&& (3 : Int32))).toUInt32.toUInt16.toUInt32.toInt32) = z := by
  refine ⟨_, ?_, ?_, rfl⟩ <;>
  · have q := c_and x 3 (by decide)
    have q1 := c_iadd 56320 (x &&& (3 : Int32))
    have q2 := c_i2c ((56320 : Int32) + (x &&& (3 : Int32)))
    have q3 := rng32 ((56320 : Int32) + (x &&& (3 : Int32)))
    have e1 : (56320 : Int32).toInt = 56320 := by decide
    have e2 : (3 : Int32).toInt = 3 := by decide
    omega
theorem own_and3 (x : Int32) : (x &&& (3 : Int32)) = (0 : Int32) ∨ (x &&& (3 : Int32)) = (1 : Int32) ∨ (x &&& (3 : Int32)) = (2 : Int32) ∨ (x &&& (3 : Int32)) = (3 : Int32) := by
  have q := c_mask x 3 2 (by decide) (by decide)
  have r : 0 ≤ (x &&& (3 : Int32)).toInt ∧ (x &&& (3 : Int32)).toInt < 4 := by omega
  simp only [← Int32.toInt_inj, show (0 : Int32).toInt = 0 from by decide, show (1 : Int32).toInt = 1 from by decide, show (2 : Int32).toInt = 2 from by decide, show (3 : Int32).toInt = 3 from by decide]
  omega
theorem d1_0 : decode B1 0 = .ok (.iload_n 0, 1) := by decide +kernel
theorem d1_1 : decode B1 1 = .ok (.iconst 3, 1) := by decide +kernel
theorem d1_2 : decode B1 2 = .ok (.iand, 1) := by decide +kernel
theorem d1_3 : decode B1 3 = .ok (.istore_n 1, 1) := by decide +kernel
theorem d1_4 : decode B1 4 = .ok (.iconst 1, 1) := by decide +kernel
theorem d1_5 : decode B1 5 = .ok (.iload_n 0, 1) := by decide +kernel
theorem d1_6 : decode B1 6 = .ok (.iconst 2, 1) := by decide +kernel
theorem d1_7 : decode B1 7 = .ok (.iushr, 1) := by decide +kernel
theorem d1_8 : decode B1 8 = .ok (.sipush 255, 3) := by decide +kernel
theorem d1_11 : decode B1 11 = .ok (.iand, 1) := by decide +kernel
theorem d1_12 : decode B1 12 = .ok (.iadd, 1) := by decide +kernel
theorem d1_13 : decode B1 13 = .ok (.i2c, 1) := by decide +kernel
theorem d1_14 : decode B1 14 = .ok (.istore_n 2, 1) := by decide +kernel
theorem d1_15 : decode B1 15 = .ok (.iconst 1, 1) := by decide +kernel
theorem d1_16 : decode B1 16 = .ok (.iload_n 0, 1) := by decide +kernel
theorem d1_17 : decode B1 17 = .ok (.bipush 10, 2) := by decide +kernel
theorem d1_19 : decode B1 19 = .ok (.iushr, 1) := by decide +kernel
theorem d1_20 : decode B1 20 = .ok (.sipush 255, 3) := by decide +kernel
theorem d1_23 : decode B1 23 = .ok (.iand, 1) := by decide +kernel
theorem d1_24 : decode B1 24 = .ok (.iadd, 1) := by decide +kernel
theorem d1_25 : decode B1 25 = .ok (.i2c, 1) := by decide +kernel
theorem d1_26 : decode B1 26 = .ok (.istore_n 3, 1) := by decide +kernel
theorem d1_27 : decode B1 27 = .ok (.iconst 1, 1) := by decide +kernel
theorem d1_28 : decode B1 28 = .ok (.iload_n 0, 1) := by decide +kernel
theorem d1_29 : decode B1 29 = .ok (.bipush 18, 2) := by decide +kernel
theorem d1_31 : decode B1 31 = .ok (.iushr, 1) := by decide +kernel
theorem d1_32 : decode B1 32 = .ok (.sipush 255, 3) := by decide +kernel
theorem d1_35 : decode B1 35 = .ok (.iand, 1) := by decide +kernel
theorem d1_36 : decode B1 36 = .ok (.iadd, 1) := by decide +kernel
theorem d1_37 : decode B1 37 = .ok (.i2c, 1) := by decide +kernel
theorem d1_38 : decode B1 38 = .ok (.istore 4, 2) := by decide +kernel
theorem d1_40 : decode B1 40 = .ok (.iload_n 1, 1) := by decide +kernel
theorem d1_41 : decode B1 41 = .ok (.iconst 2, 1) := by decide +kernel
theorem d1_42 : decode B1 42 = .ok (.if_icmp .lt 35, 3) := by decide +kernel
theorem d1_77 : decode B1 77 = .ok (.iload_n 1, 1) := by decide +kernel
theorem d1_78 : decode B1 78 = .ok (.ifCond .ne 14, 3) := by decide +kernel
theorem d1_81 : decode B1 81 = .ok (.new 9, 3) := by decide +kernel
theorem d1_84 : decode B1 84 = .ok (.dup, 1) := by decide +kernel
theorem d1_85 : decode B1 85 = .ok (.iconst 0, 1) := by decide +kernel
theorem d1_86 : decode B1 86 = .ok (.newarray .char, 2) := by decide +kernel
theorem d1_88 : decode B1 88 = .ok (.invokespecial 11, 3) := by decide +kernel
theorem own_pd_15 : parseMethodDescriptor "([C)V" = some ⟨[(.array .char)], none⟩ := by decide +kernel
abbrev own_m16 : MethodName := ⟨"java/lang/String", "<init>", "([C)V"⟩
theorem d1_91 : decode B1 91 = .ok (.areturn, 1) := by decide +kernel
theorem d1_92 : decode B1 92 = .ok (.iload_n 1, 1) := by decide +kernel
theorem d1_93 : decode B1 93 = .ok (.iconst 1, 1) := by decide +kernel
theorem d1_94 : decode B1 94 = .ok (.if_icmp .ne 18, 3) := by decide +kernel
theorem d1_97 : decode B1 97 = .ok (.new 9, 3) := by decide +kernel
theorem d1_100 : decode B1 100 = .ok (.dup, 1) := by decide +kernel
theorem d1_101 : decode B1 101 = .ok (.iconst 1, 1) := by decide +kernel
theorem d1_102 : decode B1 102 = .ok (.newarray .char, 2) := by decide +kernel
theorem d1_104 : decode B1 104 = .ok (.dup, 1) := by decide +kernel
theorem d1_105 : decode B1 105 = .ok (.iconst 0, 1) := by decide +kernel
theorem d1_106 : decode B1 106 = .ok (.iload_n 2, 1) := by decide +kernel
theorem d1_107 : decode B1 107 = .ok (.castore, 1) := by decide +kernel
theorem d1_108 : decode B1 108 = .ok (.invokespecial 11, 3) := by decide +kernel
theorem d1_111 : decode B1 111 = .ok (.areturn, 1) := by decide +kernel
theorem d1_45 : decode B1 45 = .ok (.iload_n 0, 1) := by decide +kernel
theorem d1_46 : decode B1 46 = .ok (.bipush 26, 2) := by decide +kernel
theorem d1_48 : decode B1 48 = .ok (.iushr, 1) := by decide +kernel
theorem d1_49 : decode B1 49 = .ok (.iconst 1, 1) := by decide +kernel
theorem d1_50 : decode B1 50 = .ok (.iand, 1) := by decide +kernel
theorem d1_51 : decode B1 51 = .ok (.ifCond .eq 26, 3) := by decide +kernel
theorem d1_112 : decode B1 112 = .ok (.iload_n 1, 1) := by decide +kernel
theorem d1_113 : decode B1 113 = .ok (.iconst 2, 1) := by decide +kernel
theorem d1_114 : decode B1 114 = .ok (.if_icmp .ne 22, 3) := by decide +kernel
theorem d1_117 : decode B1 117 = .ok (.new 9, 3) := by decide +kernel
theorem d1_120 : decode B1 120 = .ok (.dup, 1) := by decide +kernel
theorem d1_121 : decode B1 121 = .ok (.iconst 2, 1) := by decide +kernel
theorem d1_122 : decode B1 122 = .ok (.newarray .char, 2) := by decide +kernel
theorem d1_124 : decode B1 124 = .ok (.dup, 1) := by decide +kernel
theorem d1_125 : decode B1 125 = .ok (.iconst 0, 1) := by decide +kernel
theorem d1_126 : decode B1 126 = .ok (.iload_n 2, 1) := by decide +kernel
theorem d1_127 : decode B1 127 = .ok (.castore, 1) := by decide +kernel
theorem d1_128 : decode B1 128 = .ok (.dup, 1) := by decide +kernel
theorem d1_129 : decode B1 129 = .ok (.iconst 1, 1) := by decide +kernel
theorem d1_130 : decode B1 130 = .ok (.iload_n 3, 1) := by decide +kernel
theorem d1_131 : decode B1 131 = .ok (.castore, 1) := by decide +kernel
theorem d1_132 : decode B1 132 = .ok (.invokespecial 11, 3) := by decide +kernel
theorem d1_135 : decode B1 135 = .ok (.areturn, 1) := by decide +kernel
theorem d1_54 : decode B1 54 = .ok (.ldc 7, 2) := by decide +kernel
theorem d1_56 : decode B1 56 = .ok (.iload_n 0, 1) := by decide +kernel
theorem d1_57 : decode B1 57 = .ok (.bipush 27, 2) := by decide +kernel
theorem d1_59 : decode B1 59 = .ok (.iushr, 1) := by decide +kernel
theorem d1_60 : decode B1 60 = .ok (.bipush 7, 2) := by decide +kernel
theorem d1_62 : decode B1 62 = .ok (.iand, 1) := by decide +kernel
theorem d1_63 : decode B1 63 = .ok (.iadd, 1) := by decide +kernel
theorem d1_64 : decode B1 64 = .ok (.i2c, 1) := by decide +kernel
theorem d1_65 : decode B1 65 = .ok (.istore_n 2, 1) := by decide +kernel
theorem d1_66 : decode B1 66 = .ok (.ldc 8, 2) := by decide +kernel
theorem d1_68 : decode B1 68 = .ok (.iload_n 0, 1) := by decide +kernel
theorem d1_69 : decode B1 69 = .ok (.bipush 30, 2) := by decide +kernel
theorem d1_71 : decode B1 71 = .ok (.iushr, 1) := by decide +kernel
theorem d1_72 : decode B1 72 = .ok (.iconst 3, 1) := by decide +kernel
theorem d1_73 : decode B1 73 = .ok (.iand, 1) := by decide +kernel
theorem d1_74 : decode B1 74 = .ok (.iadd, 1) := by decide +kernel
theorem d1_75 : decode B1 75 = .ok (.i2c, 1) := by decide +kernel
theorem d1_76 : decode B1 76 = .ok (.istore_n 3, 1) := by decide +kernel
theorem d1_136 : decode B1 136 = .ok (.new 9, 3) := by decide +kernel
theorem d1_139 : decode B1 139 = .ok (.dup, 1) := by decide +kernel
theorem d1_140 : decode B1 140 = .ok (.iconst 3, 1) := by decide +kernel
theorem d1_141 : decode B1 141 = .ok (.newarray .char, 2) := by decide +kernel
theorem d1_143 : decode B1 143 = .ok (.dup, 1) := by decide +kernel
theorem d1_144 : decode B1 144 = .ok (.iconst 0, 1) := by decide +kernel
theorem d1_145 : decode B1 145 = .ok (.iload_n 2, 1) := by decide +kernel
theorem d1_146 : decode B1 146 = .ok (.castore, 1) := by decide +kernel
theorem d1_147 : decode B1 147 = .ok (.dup, 1) := by decide +kernel
theorem d1_148 : decode B1 148 = .ok (.iconst 1, 1) := by decide +kernel
theorem d1_149 : decode B1 149 = .ok (.iload_n 3, 1) := by decide +kernel
theorem d1_150 : decode B1 150 = .ok (.castore, 1) := by decide +kernel
theorem d1_151 : decode B1 151 = .ok (.dup, 1) := by decide +kernel
theorem d1_152 : decode B1 152 = .ok (.iconst 2, 1) := by decide +kernel
theorem d1_153 : decode B1 153 = .ok (.iload 4, 2) := by decide +kernel
theorem d1_155 : decode B1 155 = .ok (.castore, 1) := by decide +kernel
theorem d1_156 : decode B1 156 = .ok (.invokespecial 11, 3) := by decide +kernel
theorem d1_159 : decode B1 159 = .ok (.areturn, 1) := by decide +kernel
theorem own_pn_com_example_circa_once_circaonce_model_ScopeOfPinLaw : plainName "com/example/circa_once/circaonce/model/ScopeOfPinLaw" = true := by first | (simp [plainName, overriddenIn]; done) | decide +kernel
theorem own_ef_own_str (m : MethodId) (xi : Int32) : entryFrame m #[.int xi] 5 = mkF m 0 #[vI xi, uS, uS, uS, uS] [] := by first | (simp [entryFrame, mkF, argsToLocals, Value.category]; done) | rfl
def Q_own_str (Z : State) (xi : Int32) (gz : Int32) (gfm : Value) (gwC : Addr) (gwM : Addr) (h0 : Heap) (n0 : Nat) (v : Option Value) (h : Heap) (L : List Loc) : Prop := Fr n0 L ∧ Keep h0 h [] ∧ ∃ (r : Addr), ∃ (rb : Addr), ∃ (cs : List Int32), v = some (.ref r) ∧ own_Str Z h r rb cs ∧ own_Ok cs ∧ h0.size ≤ r
theorem own_str (l : Launch) (Z : State) (a0 : Array Value) (hw : ∀ d ∈ tables_1, d.before a0 Z = true) (ws : List Jvm.Cond) (xi : Int32) (h0 : Heap) (n0 : Nat) (O0 : Old Z n0 h0) (gz : Int32) (gfm : Value) (gwC : Addr) (gwM : Addr) (G : GG Z gz gfm gwC gwM) :
    MetFree l (⟨"com/example/circa_once/circaonce/model/ScopeOfPinLaw", "str", "(I)Ljava/lang/String;"⟩ : MethodName) (head1 (Jvm.Cond.code (⟨"com/example/circa_once/circaonce/model/ScopeOfPinLaw", "str", "(I)Ljava/lang/String;"⟩ : MethodName) method_2_code 5 (some (.object "java/lang/String")) :: ws) ({ frames := 6, cells := 6, slots := 16, locals := 88 } : Room)) (fun as_ U_ => as_ = #[.int xi] ∧ Z.Warmed39 U_.vm ∧ U_.heap = h0 ∧ CHv Z consts_1 U_.vm h0) (fun _ _ _ _ _ => True) (fun _ U_ o_ U2_ => ∃ v_ L_, o_ = .returned v_ ∧ Q_own_str Z xi gz gfm gwC gwM h0 n0 v_ U2_.heap L_ ∧ CHr Z consts_1 U_.vm U_.heap U2_.vm U2_.heap ∧ ReturnedEndW U_ o_ U2_ L_ ({ frames := 6, cells := 6, slots := 16, locals := 88 } : Room).cells ({ frames := 6, cells := 6, slots := 16, locals := 88 } : Room).slots) := by
  refine MetFree.of_bodySF (plainFor_of_name own_pn_com_example_circa_once_circaonce_model_ScopeOfPinLaw) hisR ?_
  intro p e s m args below meth c s₁ Bd hml0 hP hK
  obtain ⟨rfl, hZ, hh, hC0⟩ := hP
  have hx := Bd.exec
  have hby := Bd.bytes
  have hml : c.maxLocals = 5 := hml0
  have hown : s.vm.findClass "com/example/circa_once/circaonce/model/ScopeOfPinLaw" = some m.cls := findClass_of_methodNamed Bd.named
  have hnm := (name_of_methodNamed Bd.named Bd.method).1
  have hlk : meth.locks = false := Bd.notSynchronized
  have hret := Bd.returns
  have X0 : Stand p l e ({ frames := 6, cells := 6, slots := 16, locals := 88 } : Room) s m #[.int xi] below meth c s₁ [] 0 0 := Stand.of_body Bd
  have e0 : s₁.heap = h0 := by rw [← hh, Bd.state]; rfl
  have N0 := Fr.nil n0
  have z0 : Z.heap.size = n0 := O0.1
  have z1 : n0 ≤ h0.size := z0 ▸ O0.2.1
  have K0 : Keep h0 h0 [] := Keep.refl _ _
  have hS0 : s.Since s.vm 0 := (State.WarmedH.refl s).since 0
  have hk0 : 0 ≤ h0.size := Nat.zero_le _
  replace X0 : Stand p l e ({ frames := 6, cells := 6, slots := 16, locals := 88 } : Room) (s.setVm s.vm) m #[.int xi] below meth c s₁ [] 0 0 := X0
  have CR0 := CHr.refl hC0
  show own_Goes p e below (s₁.setTop (entryFrame m #[.int xi] 5)) (own_PostH Z consts_1 s (Q_own_str Z xi gz gfm gwC gwM h0 n0) ({ frames := 6, cells := 6, slots := 16, locals := 88 } : Room).cells ({ frames := 6, cells := 6, slots := 16, locals := 88 } : Room).slots)
  refine own_cast (own_ef_own_str m xi) ?_
  show own_Goes p e below (s₁.setTop (mkF m 0 #[vI xi, uS, uS, uS, uS] [])) _
  obtain ⟨G0, G1, G2, G3, G4, G5, G6, G7, G8, G9, G10, G11⟩ := id G
  have ltG8 : @LT.lt Nat _ gwC Z.heap.size := G8.lt
  have ltG10 : @LT.lt Nat _ gwM Z.heap.size := G10.lt
  refine q_iloadN X0 hx hby d1_0 rfl ?_
  refine q_iconst X0 hx hby d1_1 ?_
  refine q_iand X0 hx hby d1_2 ?_
  show own_Goes p e below (s₁.setTop (mkF m 3 #[vI xi, uS, uS, uS, uS] [(.int (xi &&& (3 : Int32)))])) _
  rcases own_and3 xi with hl1 | hl2 | hl3 | hl4
  · rw [hl1]
    show own_Goes p e below (s₁.setTop (mkF m 3 #[vI xi, uS, uS, uS, uS] [.int 0])) _
    refine q_istoreN X0 hx hby d1_3 (l' := #[vI xi, vI 0, uS, uS, uS]) rfl ?_
    refine q_iconst X0 hx hby d1_4 ?_
    refine q_iloadN X0 hx hby d1_5 rfl ?_
    refine q_iconst X0 hx hby d1_6 ?_
    refine gg (fun t k => XS.iushr X0.here hx rfl (hb hby d1_7) rfl k) ?_
    refine q_sipush X0 hx hby d1_8 ?_
    refine q_iand X0 hx hby d1_11 ?_
    refine q_iadd X0 hx hby d1_12 ?_
    refine gg (fun t k => XS.i2c X0.here hx rfl (hb hby d1_13) rfl k) ?_
    show own_Goes p e below (s₁.setTop (mkF m 14 #[vI xi, vI 0, uS, uS, uS] [(.int (((1 : Int32) + (((xi.toUInt32 >>> ((2 : Int32) &&& 31).toUInt32).toInt32) &&& (255 : Int32))).toUInt32.toUInt16.toUInt32.toInt32))])) _
    obtain ⟨zc5, zc5a, zc5b, zc5g⟩ := own_r1 _
    rw [show (((1 : Int32) + (((xi.toUInt32 >>> ((2 : Int32) &&& 31).toUInt32).toInt32) &&& (255 : Int32))).toUInt32.toUInt16.toUInt32.toInt32) = zc5 from zc5g]
    refine q_istoreN X0 hx hby d1_14 (l' := #[vI xi, vI 0, vI zc5, uS, uS]) rfl ?_
    refine q_iconst X0 hx hby d1_15 ?_
    refine q_iloadN X0 hx hby d1_16 rfl ?_
    refine q_bipush X0 hx hby d1_17 ?_
    refine gg (fun t k => XS.iushr X0.here hx rfl (hb hby d1_19) rfl k) ?_
    refine q_sipush X0 hx hby d1_20 ?_
    refine q_iand X0 hx hby d1_23 ?_
    refine q_iadd X0 hx hby d1_24 ?_
    refine gg (fun t k => XS.i2c X0.here hx rfl (hb hby d1_25) rfl k) ?_
    show own_Goes p e below (s₁.setTop (mkF m 26 #[vI xi, vI 0, vI zc5, uS, uS] [(.int (((1 : Int32) + (((xi.toUInt32 >>> ((10 : Int32) &&& 31).toUInt32).toInt32) &&& (255 : Int32))).toUInt32.toUInt16.toUInt32.toInt32))])) _
    obtain ⟨zc6, zc6a, zc6b, zc6g⟩ := own_r1 _
    rw [show (((1 : Int32) + (((xi.toUInt32 >>> ((10 : Int32) &&& 31).toUInt32).toInt32) &&& (255 : Int32))).toUInt32.toUInt16.toUInt32.toInt32) = zc6 from zc6g]
    refine q_istoreN X0 hx hby d1_26 (l' := #[vI xi, vI 0, vI zc5, vI zc6, uS]) rfl ?_
    refine q_iconst X0 hx hby d1_27 ?_
    refine q_iloadN X0 hx hby d1_28 rfl ?_
    refine q_bipush X0 hx hby d1_29 ?_
    refine gg (fun t k => XS.iushr X0.here hx rfl (hb hby d1_31) rfl k) ?_
    refine q_sipush X0 hx hby d1_32 ?_
    refine q_iand X0 hx hby d1_35 ?_
    refine q_iadd X0 hx hby d1_36 ?_
    refine gg (fun t k => XS.i2c X0.here hx rfl (hb hby d1_37) rfl k) ?_
    show own_Goes p e below (s₁.setTop (mkF m 38 #[vI xi, vI 0, vI zc5, vI zc6, uS] [(.int (((1 : Int32) + (((xi.toUInt32 >>> ((18 : Int32) &&& 31).toUInt32).toInt32) &&& (255 : Int32))).toUInt32.toUInt16.toUInt32.toInt32))])) _
    obtain ⟨zc7, zc7a, zc7b, zc7g⟩ := own_r1 _
    rw [show (((1 : Int32) + (((xi.toUInt32 >>> ((18 : Int32) &&& 31).toUInt32).toInt32) &&& (255 : Int32))).toUInt32.toUInt16.toUInt32.toInt32) = zc7 from zc7g]
    refine q_istore X0 hx hby d1_38 (l' := #[vI xi, vI 0, vI zc5, vI zc6, vI zc7]) rfl ?_
    refine q_iloadN X0 hx hby d1_40 rfl ?_
    refine q_iconst X0 hx hby d1_41 ?_
    refine q_icmpYes (pc := 42) X0 hx hby d1_42 (pc' := 77) (tlt (show ((0 : Int32) < (2 : Int32)) from by decide)).1 (by decide) (by decide) ?_
    refine q_iloadN X0 hx hby d1_77 rfl ?_
    refine q_ifNo X0 hx hby d1_78 ((if0 _ _).trans (teq (show ((0 : Int32) = (0 : Int32)) from by decide)).2) ?_
    obtain ⟨T8, h8, X8, e8, E8, A8, D8, -, st8⟩ := newO X0 hx hZ hown (wh hw 4 rfl) (wh hw 5 rfl) (wh hw 6 rfl) e0 (g := (mkF m 81 #[vI xi, vI 0, vI zc5, vI zc6, vI zc7] [])) rfl (hb hby d1_81) (by decide) (by decide)
    obtain ⟨b8, g8⟩ : ∃ z, z = h0.size := ⟨_, rfl⟩
    rw [← g8] at A8 D8 st8
    refine gg st8 ?_
    have O9 := O0.ext E8
    have sz10 : h0.size ≤ h8.size := E8.1
    have cs11 := CHr.ext E8 CR0.1
    have CR12 := CHr.trans CR0 cs11
    have hk13 := Nat.le_trans hk0 E8.1
    have K14 := K0.ext E8
    have l8 : @LT.lt Nat _ b8 h8.size := A8.lt
    have F8_value : Fld Z h8 b8 "java/lang/String" "value" "[B" .null := D8 (Or.inr (wh hw 20 rfl)) (ty := (.array .byte)) (by decide)
    have F8_coder : Fld Z h8 b8 "java/lang/String" "coder" "B" (.int 0) := D8 (Or.inr (wh hw 21 rfl)) (ty := .byte) (by decide)
    refine q_dup X8 hx hby d1_84 rfl ?_
    refine q_iconst X8 hx hby d1_85 ?_
    obtain ⟨T15, h15, k15, X15, e15, E15, A15, st15⟩ := newP X8 hx hZ (wh hw 7 rfl) e8 (g := (mkF m 86 #[vI xi, vI 0, vI zc5, vI zc6, vI zc7] [.int 0, .ref b8, .ref b8])) rfl (hb hby d1_86) rfl (by decide) (cap := 0) (by decide) (by decide) (by decide) (by decide)
    obtain ⟨b15, g15⟩ : ∃ z, z = h8.size := ⟨_, rfl⟩
    rw [← g15] at A15 st15
    refine gg st15 ?_
    have O16 := O9.ext E15
    have sz17 : h8.size ≤ h15.size := E15.1
    have cs18 := CHr.ext E15 CR12.1
    have CR19 := CHr.trans CR12 cs18
    have hk20 := Nat.le_trans hk13 E15.1
    have K21 := K14.ext E15
    have l15 : @LT.lt Nat _ b15 h15.size := A15.lt
    have V15 : Arv Z h15 b15 k15 .char (0 : Int32) [] (.int 0) := (Arv.new A15 (by decide)).pad (pad_rep [] (.int 0) 0)
    have f22 := (A8.ext E15)
    have f23 := (F8_value.ext E15)
    have f24 := (F8_coder.ext E15)
    obtain ⟨_, _, ⟨T25, L25, k25, n25⟩, -, X25, hS25, gr25, ⟨Lc25, hQ25, l25, y25, z25, cs25⟩, st25⟩ := X15.specialBackS hx (y := own_m16) rfl hown (mvT hZ (wh hw 8 rfl)) (mvT hZ (wh hw 9 rfl)) (mvT hZ (wh hw 10 rfl)) (by decide) (backOfSH (W := 1) (own_sc0 l Z a0 hw [] b8 b15 k15 h15 n0 O16 f22 f23 f24 (show n0 ≤ b8 by first | assumption | omega | decide) V15) hZ (wh hw 10 rfl) (wh hw 6 rfl) (by decide) (by decide) (own_EW hw) CR19.1) (g := (mkF m 88 #[vI xi, vI 0, vI zc5, vI zc6, vI zc7] [.ref b15, .ref b8, .ref b8])) rfl (by rw [hml]; rfl) (Steps.refl _) (a := b8) (argsL := [.ref b15]) (rest := [.ref b8]) (lenOf own_pd_15 rfl) rfl (by show 2 * 0 + _ ≤ _; exact Nat.le_of_eq rfl) (hb hby d1_88) (fun _ _ => ⟨rfl, e15, (by decide : 2 + 4 ≤ _), (by decide : 4 + 8 ≤ _)⟩)
    dsimp only [Pt.U, Pt.locs, Pt.cells, Pt.slots] at X25 l25 y25 z25 st25 hQ25 hS25 gr25 cs25
    subst l25 y25 z25
    obtain ⟨h25, e25⟩ : ∃ z, T25.heap = z := ⟨_, rfl⟩
    rw [e25] at hQ25 hS25 gr25 cs25
    obtain ⟨Nc25, Kc25, rb_25, rfl, c25_0⟩ := hQ25
    obtain ⟨X25, hS25, hZ25, hown25⟩ := rebS (own := "com/example/circa_once/circaonce/model/ScopeOfPinLaw") hS0 (show _ ≤ T15.heap.size by rw [e15]; exact hk20) X25 hS25 gr25 hZ hown
    have hk25 : h25.size ≤ h25.size := Nat.le_refl _
    have N25 := Fr.app N0 Nc25
    have O26 := O16.keep Kc25 (allS (show n0 ≤ b8 by omega) all0)
    have sz27 : h15.size ≤ h25.size := Kc25.1
    have CR28 := CHr.trans CR19 cs25
    have K29 := Keep.trans K21 Kc25 (allS (Or.inr (show h0.size ≤ b8 by omega)) all0)
    have ltc25_0 : @LT.lt Nat _ b8 h25.size := c25_0.1.lt
    have luc25_0 : @LT.lt Nat _ rb_25 h25.size := c25_0.lt2
    refine own_goS st25 ?_
    refine own_endH X25 hS25 (show _ ≤ T25.heap.size by rw [e25]; exact hk25) e25 hh CR28 hZ25 (own_EW hw) (v := (some (.ref b8))) (fun h => by rw [hret] at h; cases h) hlk (by decide) (by decide) ?_ (fun fs hr => retOut X25 hx hret rfl (Or.inr (Or.inr (Or.inr (Or.inr ⟨rfl, rfl, rfl⟩)))) (hb hby d1_91) hr)
    show Q_own_str Z xi gz gfm gwC gwM h0 n0 _ T25.heap _
    rw [e25]
    exact ⟨N25, K29, b8, rb_25, ([] : List Int32), rfl, c25_0, (Or.inl rfl), (show h0.size ≤ b8 by first | assumption | omega | decide)⟩
  · rw [hl2]
    show own_Goes p e below (s₁.setTop (mkF m 3 #[vI xi, uS, uS, uS, uS] [.int 1])) _
    refine q_istoreN X0 hx hby d1_3 (l' := #[vI xi, vI 1, uS, uS, uS]) rfl ?_
    refine q_iconst X0 hx hby d1_4 ?_
    refine q_iloadN X0 hx hby d1_5 rfl ?_
    refine q_iconst X0 hx hby d1_6 ?_
    refine gg (fun t k => XS.iushr X0.here hx rfl (hb hby d1_7) rfl k) ?_
    refine q_sipush X0 hx hby d1_8 ?_
    refine q_iand X0 hx hby d1_11 ?_
    refine q_iadd X0 hx hby d1_12 ?_
    refine gg (fun t k => XS.i2c X0.here hx rfl (hb hby d1_13) rfl k) ?_
    show own_Goes p e below (s₁.setTop (mkF m 14 #[vI xi, vI 1, uS, uS, uS] [(.int (((1 : Int32) + (((xi.toUInt32 >>> ((2 : Int32) &&& 31).toUInt32).toInt32) &&& (255 : Int32))).toUInt32.toUInt16.toUInt32.toInt32))])) _
    obtain ⟨zc30, zc30a, zc30b, zc30g⟩ := own_r1 _
    rw [show (((1 : Int32) + (((xi.toUInt32 >>> ((2 : Int32) &&& 31).toUInt32).toInt32) &&& (255 : Int32))).toUInt32.toUInt16.toUInt32.toInt32) = zc30 from zc30g]
    refine q_istoreN X0 hx hby d1_14 (l' := #[vI xi, vI 1, vI zc30, uS, uS]) rfl ?_
    refine q_iconst X0 hx hby d1_15 ?_
    refine q_iloadN X0 hx hby d1_16 rfl ?_
    refine q_bipush X0 hx hby d1_17 ?_
    refine gg (fun t k => XS.iushr X0.here hx rfl (hb hby d1_19) rfl k) ?_
    refine q_sipush X0 hx hby d1_20 ?_
    refine q_iand X0 hx hby d1_23 ?_
    refine q_iadd X0 hx hby d1_24 ?_
    refine gg (fun t k => XS.i2c X0.here hx rfl (hb hby d1_25) rfl k) ?_
    show own_Goes p e below (s₁.setTop (mkF m 26 #[vI xi, vI 1, vI zc30, uS, uS] [(.int (((1 : Int32) + (((xi.toUInt32 >>> ((10 : Int32) &&& 31).toUInt32).toInt32) &&& (255 : Int32))).toUInt32.toUInt16.toUInt32.toInt32))])) _
    obtain ⟨zc31, zc31a, zc31b, zc31g⟩ := own_r1 _
    rw [show (((1 : Int32) + (((xi.toUInt32 >>> ((10 : Int32) &&& 31).toUInt32).toInt32) &&& (255 : Int32))).toUInt32.toUInt16.toUInt32.toInt32) = zc31 from zc31g]
    refine q_istoreN X0 hx hby d1_26 (l' := #[vI xi, vI 1, vI zc30, vI zc31, uS]) rfl ?_
    refine q_iconst X0 hx hby d1_27 ?_
    refine q_iloadN X0 hx hby d1_28 rfl ?_
    refine q_bipush X0 hx hby d1_29 ?_
    refine gg (fun t k => XS.iushr X0.here hx rfl (hb hby d1_31) rfl k) ?_
    refine q_sipush X0 hx hby d1_32 ?_
    refine q_iand X0 hx hby d1_35 ?_
    refine q_iadd X0 hx hby d1_36 ?_
    refine gg (fun t k => XS.i2c X0.here hx rfl (hb hby d1_37) rfl k) ?_
    show own_Goes p e below (s₁.setTop (mkF m 38 #[vI xi, vI 1, vI zc30, vI zc31, uS] [(.int (((1 : Int32) + (((xi.toUInt32 >>> ((18 : Int32) &&& 31).toUInt32).toInt32) &&& (255 : Int32))).toUInt32.toUInt16.toUInt32.toInt32))])) _
    obtain ⟨zc32, zc32a, zc32b, zc32g⟩ := own_r1 _
    rw [show (((1 : Int32) + (((xi.toUInt32 >>> ((18 : Int32) &&& 31).toUInt32).toInt32) &&& (255 : Int32))).toUInt32.toUInt16.toUInt32.toInt32) = zc32 from zc32g]
    refine q_istore X0 hx hby d1_38 (l' := #[vI xi, vI 1, vI zc30, vI zc31, vI zc32]) rfl ?_
    refine q_iloadN X0 hx hby d1_40 rfl ?_
    refine q_iconst X0 hx hby d1_41 ?_
    refine q_icmpYes (pc := 42) X0 hx hby d1_42 (pc' := 77) (tlt (show ((1 : Int32) < (2 : Int32)) from by decide)).1 (by decide) (by decide) ?_
    refine q_iloadN X0 hx hby d1_77 rfl ?_
    refine q_ifYes (pc := 78) X0 hx hby d1_78 (pc' := 92) ((if0 _ _).trans (feq (show ¬ ((1 : Int32) = (0 : Int32)) from by decide)).2) (by decide) (by decide) ?_
    refine q_iloadN X0 hx hby d1_92 rfl ?_
    refine q_iconst X0 hx hby d1_93 ?_
    refine q_icmpNo X0 hx hby d1_94 (teq (show ((1 : Int32) = (1 : Int32)) from by decide)).2 ?_
    obtain ⟨T33, h33, X33, e33, E33, A33, D33, -, st33⟩ := newO X0 hx hZ hown (wh hw 4 rfl) (wh hw 5 rfl) (wh hw 6 rfl) e0 (g := (mkF m 97 #[vI xi, vI 1, vI zc30, vI zc31, vI zc32] [])) rfl (hb hby d1_97) (by decide) (by decide)
    obtain ⟨b33, g33⟩ : ∃ z, z = h0.size := ⟨_, rfl⟩
    rw [← g33] at A33 D33 st33
    refine gg st33 ?_
    have O34 := O0.ext E33
    have sz35 : h0.size ≤ h33.size := E33.1
    have cs36 := CHr.ext E33 CR0.1
    have CR37 := CHr.trans CR0 cs36
    have hk38 := Nat.le_trans hk0 E33.1
    have K39 := K0.ext E33
    have l33 : @LT.lt Nat _ b33 h33.size := A33.lt
    have F33_value : Fld Z h33 b33 "java/lang/String" "value" "[B" .null := D33 (Or.inr (wh hw 20 rfl)) (ty := (.array .byte)) (by decide)
    have F33_coder : Fld Z h33 b33 "java/lang/String" "coder" "B" (.int 0) := D33 (Or.inr (wh hw 21 rfl)) (ty := .byte) (by decide)
    refine q_dup X33 hx hby d1_100 rfl ?_
    refine q_iconst X33 hx hby d1_101 ?_
    obtain ⟨T40, h40, k40, X40, e40, E40, A40, st40⟩ := newP X33 hx hZ (wh hw 7 rfl) e33 (g := (mkF m 102 #[vI xi, vI 1, vI zc30, vI zc31, vI zc32] [.int 1, .ref b33, .ref b33])) rfl (hb hby d1_102) rfl (by decide) (cap := 1) (by decide) (by decide) (by decide) (by decide)
    obtain ⟨b40, g40⟩ : ∃ z, z = h33.size := ⟨_, rfl⟩
    rw [← g40] at A40 st40
    refine gg st40 ?_
    have O41 := O34.ext E40
    have sz42 : h33.size ≤ h40.size := E40.1
    have cs43 := CHr.ext E40 CR37.1
    have CR44 := CHr.trans CR37 cs43
    have hk45 := Nat.le_trans hk38 E40.1
    have K46 := K39.ext E40
    have l40 : @LT.lt Nat _ b40 h40.size := A40.lt
    have V40 : Arv Z h40 b40 k40 .char (1 : Int32) [.int 0] (.int 0) := (Arv.new A40 (by decide)).pad (pad_rep [] (.int 0) 1)
    refine q_dup X40 hx hby d1_104 rfl ?_
    show own_Goes p e below (T40.setTop (mkF m 105 #[vI xi, vI 1, vI zc30, vI zc31, vI zc32] [.ref b40, .ref b40, .ref b33, .ref b33])) _
    refine q_iconst X40 hx hby d1_105 ?_
    refine q_iloadN X40 hx hby d1_106 rfl ?_
    refine q_stC X40 hx hby hZ e40 V40 0 d1_107 (fun T48 h48 X48 e48 W48 V48 => ?_)
    rw [own_nar16 (own_C16m (by omega) (by omega))] at V48
    have O49 := O41.wr W48 (show n0 ≤ b40 by omega)
    have sz50 : h48.size = h40.size := Wr.size W48
    have cs51 := CHr.wr W48 (Safe.arv hZ.alike V40 (by decide)) CR44.1
    have CR52 := CHr.trans CR44 cs51
    have hk53 := Nat.le_trans hk45 (Nat.le_of_eq (Wr.size W48).symm)
    have K54 := K46.wr W48 (Or.inr (show h0.size ≤ b40 by omega))
    have N48 := Fr.snoc X48 N0 (show n0 ≤ b40 by omega)
    have V48 : Arv Z h48 b40 k40 .char (1 : Int32) [.int zc30] (.int 0) := V48
    have f55 := ((A33.ext E40).wr W48)
    have f56 := ((F33_value.ext E40).other W48 (Or.inl (nE b33 b40 (by omega))))
    have f57 := ((F33_coder.ext E40).other W48 (Or.inl (nE b33 b40 (by omega))))
    obtain ⟨_, _, ⟨T58, L58, k58, n58⟩, -, X58, ⟨Lc58, hQ58, l58, y58, z58⟩, st58⟩ := X48.specialBack hx (y := own_m16) rfl hown (mvT hZ (wh hw 8 rfl)) (mvT hZ (wh hw 9 rfl)) (mvT hZ (wh hw 10 rfl)) (by decide) (backOf (W := 1) (own_sc1 l Z a0 hw [] b33 b40 k40 zc30 h48 n0 O49 gz gfm gwC gwM G f55 f56 f57 (show n0 ≤ b33 by first | assumption | omega | decide) V48 (show (@LT.lt Nat _ b40 b33 ∨ @LT.lt Nat _ b33 b40) by first | assumption | omega | decide) (show own_C16 zc30 from (own_C16m (by omega) (by omega)))) hZ (wh hw 10 rfl) (wh hw 6 rfl) (by decide) (by decide)) (g := (mkF m 108 #[vI xi, vI 1, vI zc30, vI zc31, vI zc32] [.ref b40, .ref b33, .ref b33])) rfl (by rw [hml]; rfl) (Steps.refl _) (a := b33) (argsL := [.ref b40]) (rest := [.ref b33]) (lenOf own_pd_15 rfl) rfl (by show 2 * 0 + _ ≤ _; exact Nat.le_of_eq rfl) (hb hby d1_108) (fun _ _ => ⟨rfl, e48, (by decide : 2 + 2 ≤ _), (by decide : 5 + 3 ≤ _)⟩)
    dsimp only [Pt.U, Pt.locs, Pt.cells, Pt.slots] at X58 l58 y58 z58 st58 hQ58
    subst l58 y58 z58
    obtain ⟨h58, e58⟩ : ∃ z, T58.heap = z := ⟨_, rfl⟩
    rw [e58] at hQ58
    obtain ⟨Nc58, Kc58, rb_58, rfl, c58_0⟩ := hQ58
    have N58 := Fr.app N48 Nc58
    have SF59 : Safe Z consts_1 _ h48 b33 := own_safeNull hZ.alike f55 f56
    have O60 := O49.keep Kc58 (allS (show n0 ≤ b33 by omega) all0)
    have sz61 : h48.size ≤ h58.size := Kc58.1
    have cs62 := CHr.keep Kc58 (sfS SF59 sf0) CR52.1
    have CR63 := CHr.trans CR52 cs62
    have SF64 := CHr.safe cs62 (show @LT.lt Nat _ b33 h48.size by omega) SF59
    have hk65 := Nat.le_trans hk53 Kc58.1
    have K66 := Keep.trans K54 Kc58 (allS (Or.inr (show h0.size ≤ b33 by omega)) all0)
    have ltc58_0 : @LT.lt Nat _ b33 h58.size := c58_0.1.lt
    have luc58_0 : @LT.lt Nat _ rb_58 h58.size := c58_0.lt2
    refine own_goS st58 ?_
    refine own_endH X58 hS0 (show _ ≤ T58.heap.size by rw [e58]; exact hk65) e58 hh CR63 hZ (own_EW hw) (v := (some (.ref b33))) (fun h => by rw [hret] at h; cases h) hlk (by decide) (by decide) ?_ (fun fs hr => retOut X58 hx hret rfl (Or.inr (Or.inr (Or.inr (Or.inr ⟨rfl, rfl, rfl⟩)))) (hb hby d1_111) hr)
    show Q_own_str Z xi gz gfm gwC gwM h0 n0 _ T58.heap _
    rw [e58]
    exact ⟨N58, K66, b33, rb_58, ([zc30] : List Int32), rfl, c58_0, (Or.inr (Or.inl ⟨zc30, rfl, (by omega)⟩)), (show h0.size ≤ b33 by first | assumption | omega | decide)⟩
  · rw [hl3]
    show own_Goes p e below (s₁.setTop (mkF m 3 #[vI xi, uS, uS, uS, uS] [.int 2])) _
    refine q_istoreN X0 hx hby d1_3 (l' := #[vI xi, vI 2, uS, uS, uS]) rfl ?_
    refine q_iconst X0 hx hby d1_4 ?_
    refine q_iloadN X0 hx hby d1_5 rfl ?_
    refine q_iconst X0 hx hby d1_6 ?_
    refine gg (fun t k => XS.iushr X0.here hx rfl (hb hby d1_7) rfl k) ?_
    refine q_sipush X0 hx hby d1_8 ?_
    refine q_iand X0 hx hby d1_11 ?_
    refine q_iadd X0 hx hby d1_12 ?_
    refine gg (fun t k => XS.i2c X0.here hx rfl (hb hby d1_13) rfl k) ?_
    show own_Goes p e below (s₁.setTop (mkF m 14 #[vI xi, vI 2, uS, uS, uS] [(.int (((1 : Int32) + (((xi.toUInt32 >>> ((2 : Int32) &&& 31).toUInt32).toInt32) &&& (255 : Int32))).toUInt32.toUInt16.toUInt32.toInt32))])) _
    obtain ⟨zc67, zc67a, zc67b, zc67g⟩ := own_r1 _
    rw [show (((1 : Int32) + (((xi.toUInt32 >>> ((2 : Int32) &&& 31).toUInt32).toInt32) &&& (255 : Int32))).toUInt32.toUInt16.toUInt32.toInt32) = zc67 from zc67g]
    refine q_istoreN X0 hx hby d1_14 (l' := #[vI xi, vI 2, vI zc67, uS, uS]) rfl ?_
    refine q_iconst X0 hx hby d1_15 ?_
    refine q_iloadN X0 hx hby d1_16 rfl ?_
    refine q_bipush X0 hx hby d1_17 ?_
    refine gg (fun t k => XS.iushr X0.here hx rfl (hb hby d1_19) rfl k) ?_
    refine q_sipush X0 hx hby d1_20 ?_
    refine q_iand X0 hx hby d1_23 ?_
    refine q_iadd X0 hx hby d1_24 ?_
    refine gg (fun t k => XS.i2c X0.here hx rfl (hb hby d1_25) rfl k) ?_
    show own_Goes p e below (s₁.setTop (mkF m 26 #[vI xi, vI 2, vI zc67, uS, uS] [(.int (((1 : Int32) + (((xi.toUInt32 >>> ((10 : Int32) &&& 31).toUInt32).toInt32) &&& (255 : Int32))).toUInt32.toUInt16.toUInt32.toInt32))])) _
    obtain ⟨zc68, zc68a, zc68b, zc68g⟩ := own_r1 _
    rw [show (((1 : Int32) + (((xi.toUInt32 >>> ((10 : Int32) &&& 31).toUInt32).toInt32) &&& (255 : Int32))).toUInt32.toUInt16.toUInt32.toInt32) = zc68 from zc68g]
    refine q_istoreN X0 hx hby d1_26 (l' := #[vI xi, vI 2, vI zc67, vI zc68, uS]) rfl ?_
    refine q_iconst X0 hx hby d1_27 ?_
    refine q_iloadN X0 hx hby d1_28 rfl ?_
    refine q_bipush X0 hx hby d1_29 ?_
    refine gg (fun t k => XS.iushr X0.here hx rfl (hb hby d1_31) rfl k) ?_
    refine q_sipush X0 hx hby d1_32 ?_
    refine q_iand X0 hx hby d1_35 ?_
    refine q_iadd X0 hx hby d1_36 ?_
    refine gg (fun t k => XS.i2c X0.here hx rfl (hb hby d1_37) rfl k) ?_
    show own_Goes p e below (s₁.setTop (mkF m 38 #[vI xi, vI 2, vI zc67, vI zc68, uS] [(.int (((1 : Int32) + (((xi.toUInt32 >>> ((18 : Int32) &&& 31).toUInt32).toInt32) &&& (255 : Int32))).toUInt32.toUInt16.toUInt32.toInt32))])) _
    obtain ⟨zc69, zc69a, zc69b, zc69g⟩ := own_r1 _
    rw [show (((1 : Int32) + (((xi.toUInt32 >>> ((18 : Int32) &&& 31).toUInt32).toInt32) &&& (255 : Int32))).toUInt32.toUInt16.toUInt32.toInt32) = zc69 from zc69g]
    refine q_istore X0 hx hby d1_38 (l' := #[vI xi, vI 2, vI zc67, vI zc68, vI zc69]) rfl ?_
    refine q_iloadN X0 hx hby d1_40 rfl ?_
    refine q_iconst X0 hx hby d1_41 ?_
    refine q_icmpNo X0 hx hby d1_42 (flt (show ¬ ((2 : Int32) < (2 : Int32)) from by decide)).1 ?_
    refine q_iloadN X0 hx hby d1_45 rfl ?_
    refine q_bipush X0 hx hby d1_46 ?_
    refine gg (fun t k => XS.iushr X0.here hx rfl (hb hby d1_48) rfl k) ?_
    refine q_iconst X0 hx hby d1_49 ?_
    refine q_iand X0 hx hby d1_50 ?_
    by_cases hc70 : (((xi.toUInt32 >>> ((26 : Int32) &&& 31).toUInt32).toInt32) &&& (1 : Int32)) = (0 : Int32)
    · refine q_ifYes (pc := 51) X0 hx hby d1_51 (pc' := 77) ((if0 _ _).trans (teq hc70).1) (by decide) (by decide) ?_
      refine q_iloadN X0 hx hby d1_77 rfl ?_
      refine q_ifYes (pc := 78) X0 hx hby d1_78 (pc' := 92) ((if0 _ _).trans (feq (show ¬ ((2 : Int32) = (0 : Int32)) from by decide)).2) (by decide) (by decide) ?_
      refine q_iloadN X0 hx hby d1_92 rfl ?_
      refine q_iconst X0 hx hby d1_93 ?_
      show own_Goes p e below (s₁.setTop (mkF m 94 #[vI xi, vI 2, vI zc67, vI zc68, vI zc69] [.int 1, .int 2])) _
      refine q_icmpYes (pc := 94) X0 hx hby d1_94 (pc' := 112) (feq (show ¬ ((2 : Int32) = (1 : Int32)) from by decide)).2 (by decide) (by decide) ?_
      refine q_iloadN X0 hx hby d1_112 rfl ?_
      refine q_iconst X0 hx hby d1_113 ?_
      refine q_icmpNo X0 hx hby d1_114 (teq (show ((2 : Int32) = (2 : Int32)) from by decide)).2 ?_
      obtain ⟨T71, h71, X71, e71, E71, A71, D71, -, st71⟩ := newO X0 hx hZ hown (wh hw 4 rfl) (wh hw 5 rfl) (wh hw 6 rfl) e0 (g := (mkF m 117 #[vI xi, vI 2, vI zc67, vI zc68, vI zc69] [])) rfl (hb hby d1_117) (by decide) (by decide)
      obtain ⟨b71, g71⟩ : ∃ z, z = h0.size := ⟨_, rfl⟩
      rw [← g71] at A71 D71 st71
      refine gg st71 ?_
      have O72 := O0.ext E71
      have sz73 : h0.size ≤ h71.size := E71.1
      have cs74 := CHr.ext E71 CR0.1
      have CR75 := CHr.trans CR0 cs74
      have hk76 := Nat.le_trans hk0 E71.1
      have K77 := K0.ext E71
      have l71 : @LT.lt Nat _ b71 h71.size := A71.lt
      have F71_value : Fld Z h71 b71 "java/lang/String" "value" "[B" .null := D71 (Or.inr (wh hw 20 rfl)) (ty := (.array .byte)) (by decide)
      have F71_coder : Fld Z h71 b71 "java/lang/String" "coder" "B" (.int 0) := D71 (Or.inr (wh hw 21 rfl)) (ty := .byte) (by decide)
      refine q_dup X71 hx hby d1_120 rfl ?_
      refine q_iconst X71 hx hby d1_121 ?_
      obtain ⟨T78, h78, k78, X78, e78, E78, A78, st78⟩ := newP X71 hx hZ (wh hw 7 rfl) e71 (g := (mkF m 122 #[vI xi, vI 2, vI zc67, vI zc68, vI zc69] [.int 2, .ref b71, .ref b71])) rfl (hb hby d1_122) rfl (by decide) (cap := 2) (by decide) (by decide) (by decide) (by decide)
      obtain ⟨b78, g78⟩ : ∃ z, z = h71.size := ⟨_, rfl⟩
      rw [← g78] at A78 st78
      refine gg st78 ?_
      have O79 := O72.ext E78
      have sz80 : h71.size ≤ h78.size := E78.1
      have cs81 := CHr.ext E78 CR75.1
      have CR82 := CHr.trans CR75 cs81
      have hk83 := Nat.le_trans hk76 E78.1
      have K84 := K77.ext E78
      have l78 : @LT.lt Nat _ b78 h78.size := A78.lt
      have V78 : Arv Z h78 b78 k78 .char (2 : Int32) [.int 0, .int 0] (.int 0) := (Arv.new A78 (by decide)).pad (pad_rep [] (.int 0) 2)
      refine q_dup X78 hx hby d1_124 rfl ?_
      refine q_iconst X78 hx hby d1_125 ?_
      refine q_iloadN X78 hx hby d1_126 rfl ?_
      refine q_stC X78 hx hby hZ e78 V78 0 d1_127 (fun T86 h86 X86 e86 W86 V86 => ?_)
      rw [own_nar16 (own_C16m (by omega) (by omega))] at V86
      have O87 := O79.wr W86 (show n0 ≤ b78 by omega)
      have sz88 : h86.size = h78.size := Wr.size W86
      have cs89 := CHr.wr W86 (Safe.arv hZ.alike V78 (by decide)) CR82.1
      have CR90 := CHr.trans CR82 cs89
      have hk91 := Nat.le_trans hk83 (Nat.le_of_eq (Wr.size W86).symm)
      have K92 := K84.wr W86 (Or.inr (show h0.size ≤ b78 by omega))
      have N86 := Fr.snoc X86 N0 (show n0 ≤ b78 by omega)
      have V86 : Arv Z h86 b78 k78 .char (2 : Int32) [.int zc67, .int 0] (.int 0) := V86
      refine q_dup X86 hx hby d1_128 rfl ?_
      refine q_iconst X86 hx hby d1_129 ?_
      show own_Goes p e below (T86.setTop (mkF m 130 #[vI xi, vI 2, vI zc67, vI zc68, vI zc69] [.int 1, .ref b78, .ref b78, .ref b71, .ref b71])) _
      refine q_iloadN X86 hx hby d1_130 rfl ?_
      refine q_stC X86 hx hby hZ e86 V86 1 d1_131 (fun T94 h94 X94 e94 W94 V94 => ?_)
      rw [own_nar16 (own_C16m (by omega) (by omega))] at V94
      have O95 := O87.wr W94 (show n0 ≤ b78 by omega)
      have sz96 : h94.size = h86.size := Wr.size W94
      have cs97 := CHr.wr W94 (Safe.arv hZ.alike V86 (by decide)) CR90.1
      have CR98 := CHr.trans CR90 cs97
      have hk99 := Nat.le_trans hk91 (Nat.le_of_eq (Wr.size W94).symm)
      have K100 := K92.wr W94 (Or.inr (show h0.size ≤ b78 by omega))
      have N94 := Fr.snoc X94 N86 (show n0 ≤ b78 by omega)
      have V94 : Arv Z h94 b78 k78 .char (2 : Int32) [.int zc67, .int zc68] (.int 0) := V94
      have f101 := (((A71.ext E78).wr W86).wr W94)
      have f102 := (((F71_value.ext E78).other W86 (Or.inl (nE b71 b78 (by omega)))).other W94 (Or.inl (nE b71 b78 (by omega))))
      have f103 := (((F71_coder.ext E78).other W86 (Or.inl (nE b71 b78 (by omega)))).other W94 (Or.inl (nE b71 b78 (by omega))))
      obtain ⟨_, _, ⟨T104, L104, k104, n104⟩, -, X104, ⟨Lc104, hQ104, l104, y104, z104⟩, st104⟩ := X94.specialBack hx (y := own_m16) rfl hown (mvT hZ (wh hw 8 rfl)) (mvT hZ (wh hw 9 rfl)) (mvT hZ (wh hw 10 rfl)) (by decide) (backOf (W := 1) (own_sc2 l Z a0 hw [] b71 b78 k78 zc67 zc68 h94 n0 O95 gz gfm gwC gwM G f101 f102 f103 (show n0 ≤ b71 by first | assumption | omega | decide) V94 (show (@LT.lt Nat _ b78 b71 ∨ @LT.lt Nat _ b71 b78) by first | assumption | omega | decide) (show own_C16 zc67 from (own_C16m (by omega) (by omega))) (show own_C16 zc68 from (own_C16m (by omega) (by omega)))) hZ (wh hw 10 rfl) (wh hw 6 rfl) (by decide) (by decide)) (g := (mkF m 132 #[vI xi, vI 2, vI zc67, vI zc68, vI zc69] [.ref b78, .ref b71, .ref b71])) rfl (by rw [hml]; rfl) (Steps.refl _) (a := b71) (argsL := [.ref b78]) (rest := [.ref b71]) (lenOf own_pd_15 rfl) rfl (by show 2 * 0 + _ ≤ _; exact Nat.le_of_eq rfl) (hb hby d1_132) (fun _ _ => ⟨rfl, e94, (by decide : 2 + 2 ≤ _), (by decide : 6 + 6 ≤ _)⟩)
      dsimp only [Pt.U, Pt.locs, Pt.cells, Pt.slots] at X104 l104 y104 z104 st104 hQ104
      subst l104 y104 z104
      obtain ⟨h104, e104⟩ : ∃ z, T104.heap = z := ⟨_, rfl⟩
      rw [e104] at hQ104
      obtain ⟨Nc104, Kc104, rb_104, rfl, c104_0⟩ := hQ104
      have N104 := Fr.app N94 Nc104
      have SF105 : Safe Z consts_1 _ h94 b71 := own_safeNull hZ.alike f101 f102
      have O106 := O95.keep Kc104 (allS (show n0 ≤ b71 by omega) all0)
      have sz107 : h94.size ≤ h104.size := Kc104.1
      have cs108 := CHr.keep Kc104 (sfS SF105 sf0) CR98.1
      have CR109 := CHr.trans CR98 cs108
      have SF110 := CHr.safe cs108 (show @LT.lt Nat _ b71 h94.size by omega) SF105
      have hk111 := Nat.le_trans hk99 Kc104.1
      have K112 := Keep.trans K100 Kc104 (allS (Or.inr (show h0.size ≤ b71 by omega)) all0)
      have ltc104_0 : @LT.lt Nat _ b71 h104.size := c104_0.1.lt
      have luc104_0 : @LT.lt Nat _ rb_104 h104.size := c104_0.lt2
      refine own_goS st104 ?_
      refine own_endH X104 hS0 (show _ ≤ T104.heap.size by rw [e104]; exact hk111) e104 hh CR109 hZ (own_EW hw) (v := (some (.ref b71))) (fun h => by rw [hret] at h; cases h) hlk (by decide) (by decide) ?_ (fun fs hr => retOut X104 hx hret rfl (Or.inr (Or.inr (Or.inr (Or.inr ⟨rfl, rfl, rfl⟩)))) (hb hby d1_135) hr)
      show Q_own_str Z xi gz gfm gwC gwM h0 n0 _ T104.heap _
      rw [e104]
      exact ⟨N104, K112, b71, rb_104, ([zc67, zc68] : List Int32), rfl, c104_0, (Or.inr (Or.inr (Or.inl ⟨zc67, zc68, rfl, (by omega), (by omega)⟩))), (show h0.size ≤ b71 by first | assumption | omega | decide)⟩
    · refine q_ifNo X0 hx hby d1_51 ((if0 _ _).trans (feq hc70).1) ?_
      refine gg (fun t k => Jvm.Stand.ldcI X0 hx hown (mv hZ (wh hw 150 rfl)) rfl (hb hby d1_54) k) ?_
      refine q_iloadN X0 hx hby d1_56 rfl ?_
      refine q_bipush X0 hx hby d1_57 ?_
      refine gg (fun t k => XS.iushr X0.here hx rfl (hb hby d1_59) rfl k) ?_
      refine q_bipush X0 hx hby d1_60 ?_
      refine q_iand X0 hx hby d1_62 ?_
      refine q_iadd X0 hx hby d1_63 ?_
      refine gg (fun t k => XS.i2c X0.here hx rfl (hb hby d1_64) rfl k) ?_
      show own_Goes p e below (s₁.setTop (mkF m 65 #[vI xi, vI 2, vI zc67, vI zc68, vI zc69] [(.int (((55296 : Int32) + (((xi.toUInt32 >>> ((27 : Int32) &&& 31).toUInt32).toInt32) &&& (7 : Int32))).toUInt32.toUInt16.toUInt32.toInt32))])) _
      obtain ⟨zc113, zc113a, zc113b, zc113g⟩ := own_rh _
      rw [show (((55296 : Int32) + (((xi.toUInt32 >>> ((27 : Int32) &&& 31).toUInt32).toInt32) &&& (7 : Int32))).toUInt32.toUInt16.toUInt32.toInt32) = zc113 from zc113g]
      refine q_istoreN X0 hx hby d1_65 (l' := #[vI xi, vI 2, vI zc113, vI zc68, vI zc69]) rfl ?_
      refine gg (fun t k => Jvm.Stand.ldcI X0 hx hown (mv hZ (wh hw 151 rfl)) rfl (hb hby d1_66) k) ?_
      refine q_iloadN X0 hx hby d1_68 rfl ?_
      refine q_bipush X0 hx hby d1_69 ?_
      refine gg (fun t k => XS.iushr X0.here hx rfl (hb hby d1_71) rfl k) ?_
      refine q_iconst X0 hx hby d1_72 ?_
      refine q_iand X0 hx hby d1_73 ?_
      refine q_iadd X0 hx hby d1_74 ?_
      refine gg (fun t k => XS.i2c X0.here hx rfl (hb hby d1_75) rfl k) ?_
      show own_Goes p e below (s₁.setTop (mkF m 76 #[vI xi, vI 2, vI zc113, vI zc68, vI zc69] [(.int (((56320 : Int32) + (((xi.toUInt32 >>> ((30 : Int32) &&& 31).toUInt32).toInt32) &&& (3 : Int32))).toUInt32.toUInt16.toUInt32.toInt32))])) _
      obtain ⟨zc114, zc114a, zc114b, zc114g⟩ := own_rl _
      rw [show (((56320 : Int32) + (((xi.toUInt32 >>> ((30 : Int32) &&& 31).toUInt32).toInt32) &&& (3 : Int32))).toUInt32.toUInt16.toUInt32.toInt32) = zc114 from zc114g]
      refine q_istoreN X0 hx hby d1_76 (l' := #[vI xi, vI 2, vI zc113, vI zc114, vI zc69]) rfl ?_
      refine q_iloadN X0 hx hby d1_77 rfl ?_
      refine q_ifYes (pc := 78) X0 hx hby d1_78 (pc' := 92) ((if0 _ _).trans (feq (show ¬ ((2 : Int32) = (0 : Int32)) from by decide)).2) (by decide) (by decide) ?_
      refine q_iloadN X0 hx hby d1_92 rfl ?_
      refine q_iconst X0 hx hby d1_93 ?_
      refine q_icmpYes (pc := 94) X0 hx hby d1_94 (pc' := 112) (feq (show ¬ ((2 : Int32) = (1 : Int32)) from by decide)).2 (by decide) (by decide) ?_
      refine q_iloadN X0 hx hby d1_112 rfl ?_
      refine q_iconst X0 hx hby d1_113 ?_
      refine q_icmpNo X0 hx hby d1_114 (teq (show ((2 : Int32) = (2 : Int32)) from by decide)).2 ?_
      obtain ⟨T115, h115, X115, e115, E115, A115, D115, -, st115⟩ := newO X0 hx hZ hown (wh hw 4 rfl) (wh hw 5 rfl) (wh hw 6 rfl) e0 (g := (mkF m 117 #[vI xi, vI 2, vI zc113, vI zc114, vI zc69] [])) rfl (hb hby d1_117) (by decide) (by decide)
      obtain ⟨b115, g115⟩ : ∃ z, z = h0.size := ⟨_, rfl⟩
      rw [← g115] at A115 D115 st115
      refine gg st115 ?_
      have O116 := O0.ext E115
      have sz117 : h0.size ≤ h115.size := E115.1
      have cs118 := CHr.ext E115 CR0.1
      have CR119 := CHr.trans CR0 cs118
      have hk120 := Nat.le_trans hk0 E115.1
      have K121 := K0.ext E115
      have l115 : @LT.lt Nat _ b115 h115.size := A115.lt
      have F115_value : Fld Z h115 b115 "java/lang/String" "value" "[B" .null := D115 (Or.inr (wh hw 20 rfl)) (ty := (.array .byte)) (by decide)
      have F115_coder : Fld Z h115 b115 "java/lang/String" "coder" "B" (.int 0) := D115 (Or.inr (wh hw 21 rfl)) (ty := .byte) (by decide)
      refine q_dup X115 hx hby d1_120 rfl ?_
      refine q_iconst X115 hx hby d1_121 ?_
      obtain ⟨T122, h122, k122, X122, e122, E122, A122, st122⟩ := newP X115 hx hZ (wh hw 7 rfl) e115 (g := (mkF m 122 #[vI xi, vI 2, vI zc113, vI zc114, vI zc69] [.int 2, .ref b115, .ref b115])) rfl (hb hby d1_122) rfl (by decide) (cap := 2) (by decide) (by decide) (by decide) (by decide)
      obtain ⟨b122, g122⟩ : ∃ z, z = h115.size := ⟨_, rfl⟩
      rw [← g122] at A122 st122
      refine gg st122 ?_
      have O123 := O116.ext E122
      have sz124 : h115.size ≤ h122.size := E122.1
      have cs125 := CHr.ext E122 CR119.1
      have CR126 := CHr.trans CR119 cs125
      have hk127 := Nat.le_trans hk120 E122.1
      have K128 := K121.ext E122
      have l122 : @LT.lt Nat _ b122 h122.size := A122.lt
      have V122 : Arv Z h122 b122 k122 .char (2 : Int32) [.int 0, .int 0] (.int 0) := (Arv.new A122 (by decide)).pad (pad_rep [] (.int 0) 2)
      refine q_dup X122 hx hby d1_124 rfl ?_
      show own_Goes p e below (T122.setTop (mkF m 125 #[vI xi, vI 2, vI zc113, vI zc114, vI zc69] [.ref b122, .ref b122, .ref b115, .ref b115])) _
      refine q_iconst X122 hx hby d1_125 ?_
      refine q_iloadN X122 hx hby d1_126 rfl ?_
      refine q_stC X122 hx hby hZ e122 V122 0 d1_127 (fun T130 h130 X130 e130 W130 V130 => ?_)
      rw [own_nar16 (own_C16m (by omega) (by omega))] at V130
      have O131 := O123.wr W130 (show n0 ≤ b122 by omega)
      have sz132 : h130.size = h122.size := Wr.size W130
      have cs133 := CHr.wr W130 (Safe.arv hZ.alike V122 (by decide)) CR126.1
      have CR134 := CHr.trans CR126 cs133
      have hk135 := Nat.le_trans hk127 (Nat.le_of_eq (Wr.size W130).symm)
      have K136 := K128.wr W130 (Or.inr (show h0.size ≤ b122 by omega))
      have N130 := Fr.snoc X130 N0 (show n0 ≤ b122 by omega)
      have V130 : Arv Z h130 b122 k122 .char (2 : Int32) [.int zc113, .int 0] (.int 0) := V130
      refine q_dup X130 hx hby d1_128 rfl ?_
      refine q_iconst X130 hx hby d1_129 ?_
      refine q_iloadN X130 hx hby d1_130 rfl ?_
      refine q_stC X130 hx hby hZ e130 V130 1 d1_131 (fun T138 h138 X138 e138 W138 V138 => ?_)
      rw [own_nar16 (own_C16m (by omega) (by omega))] at V138
      have O139 := O131.wr W138 (show n0 ≤ b122 by omega)
      have sz140 : h138.size = h130.size := Wr.size W138
      have cs141 := CHr.wr W138 (Safe.arv hZ.alike V130 (by decide)) CR134.1
      have CR142 := CHr.trans CR134 cs141
      have hk143 := Nat.le_trans hk135 (Nat.le_of_eq (Wr.size W138).symm)
      have K144 := K136.wr W138 (Or.inr (show h0.size ≤ b122 by omega))
      have N138 := Fr.snoc X138 N130 (show n0 ≤ b122 by omega)
      have V138 : Arv Z h138 b122 k122 .char (2 : Int32) [.int zc113, .int zc114] (.int 0) := V138
      have f145 := (((A115.ext E122).wr W130).wr W138)
      have f146 := (((F115_value.ext E122).other W130 (Or.inl (nE b115 b122 (by omega)))).other W138 (Or.inl (nE b115 b122 (by omega))))
      have f147 := (((F115_coder.ext E122).other W130 (Or.inl (nE b115 b122 (by omega)))).other W138 (Or.inl (nE b115 b122 (by omega))))
      obtain ⟨_, _, ⟨T148, L148, k148, n148⟩, -, X148, ⟨Lc148, hQ148, l148, y148, z148⟩, st148⟩ := X138.specialBack hx (y := own_m16) rfl hown (mvT hZ (wh hw 8 rfl)) (mvT hZ (wh hw 9 rfl)) (mvT hZ (wh hw 10 rfl)) (by decide) (backOf (W := 1) (own_sc2 l Z a0 hw [] b115 b122 k122 zc113 zc114 h138 n0 O139 gz gfm gwC gwM G f145 f146 f147 (show n0 ≤ b115 by first | assumption | omega | decide) V138 (show (@LT.lt Nat _ b122 b115 ∨ @LT.lt Nat _ b115 b122) by first | assumption | omega | decide) (show own_C16 zc113 from (own_C16m (by omega) (by omega))) (show own_C16 zc114 from (own_C16m (by omega) (by omega)))) hZ (wh hw 10 rfl) (wh hw 6 rfl) (by decide) (by decide)) (g := (mkF m 132 #[vI xi, vI 2, vI zc113, vI zc114, vI zc69] [.ref b122, .ref b115, .ref b115])) rfl (by rw [hml]; rfl) (Steps.refl _) (a := b115) (argsL := [.ref b122]) (rest := [.ref b115]) (lenOf own_pd_15 rfl) rfl (by show 2 * 0 + _ ≤ _; exact Nat.le_of_eq rfl) (hb hby d1_132) (fun _ _ => ⟨rfl, e138, (by decide : 2 + 2 ≤ _), (by decide : 6 + 6 ≤ _)⟩)
      dsimp only [Pt.U, Pt.locs, Pt.cells, Pt.slots] at X148 l148 y148 z148 st148 hQ148
      subst l148 y148 z148
      obtain ⟨h148, e148⟩ : ∃ z, T148.heap = z := ⟨_, rfl⟩
      rw [e148] at hQ148
      obtain ⟨Nc148, Kc148, rb_148, rfl, c148_0⟩ := hQ148
      have N148 := Fr.app N138 Nc148
      have SF149 : Safe Z consts_1 _ h138 b115 := own_safeNull hZ.alike f145 f146
      have O150 := O139.keep Kc148 (allS (show n0 ≤ b115 by omega) all0)
      have sz151 : h138.size ≤ h148.size := Kc148.1
      have cs152 := CHr.keep Kc148 (sfS SF149 sf0) CR142.1
      have CR153 := CHr.trans CR142 cs152
      have SF154 := CHr.safe cs152 (show @LT.lt Nat _ b115 h138.size by omega) SF149
      have hk155 := Nat.le_trans hk143 Kc148.1
      have K156 := Keep.trans K144 Kc148 (allS (Or.inr (show h0.size ≤ b115 by omega)) all0)
      have ltc148_0 : @LT.lt Nat _ b115 h148.size := c148_0.1.lt
      have luc148_0 : @LT.lt Nat _ rb_148 h148.size := c148_0.lt2
      refine own_goS st148 ?_
      refine own_endH X148 hS0 (show _ ≤ T148.heap.size by rw [e148]; exact hk155) e148 hh CR153 hZ (own_EW hw) (v := (some (.ref b115))) (fun h => by rw [hret] at h; cases h) hlk (by decide) (by decide) ?_ (fun fs hr => retOut X148 hx hret rfl (Or.inr (Or.inr (Or.inr (Or.inr ⟨rfl, rfl, rfl⟩)))) (hb hby d1_135) hr)
      show Q_own_str Z xi gz gfm gwC gwM h0 n0 _ T148.heap _
      rw [e148]
      exact ⟨N148, K156, b115, rb_148, ([zc113, zc114] : List Int32), rfl, c148_0, (Or.inr (Or.inr (Or.inl ⟨zc113, zc114, rfl, (by omega), (by omega)⟩))), (show h0.size ≤ b115 by first | assumption | omega | decide)⟩
  · rw [hl4]
    show own_Goes p e below (s₁.setTop (mkF m 3 #[vI xi, uS, uS, uS, uS] [.int 3])) _
    refine q_istoreN X0 hx hby d1_3 (l' := #[vI xi, vI 3, uS, uS, uS]) rfl ?_
    refine q_iconst X0 hx hby d1_4 ?_
    refine q_iloadN X0 hx hby d1_5 rfl ?_
    refine q_iconst X0 hx hby d1_6 ?_
    refine gg (fun t k => XS.iushr X0.here hx rfl (hb hby d1_7) rfl k) ?_
    refine q_sipush X0 hx hby d1_8 ?_
    refine q_iand X0 hx hby d1_11 ?_
    refine q_iadd X0 hx hby d1_12 ?_
    refine gg (fun t k => XS.i2c X0.here hx rfl (hb hby d1_13) rfl k) ?_
    show own_Goes p e below (s₁.setTop (mkF m 14 #[vI xi, vI 3, uS, uS, uS] [(.int (((1 : Int32) + (((xi.toUInt32 >>> ((2 : Int32) &&& 31).toUInt32).toInt32) &&& (255 : Int32))).toUInt32.toUInt16.toUInt32.toInt32))])) _
    obtain ⟨zc157, zc157a, zc157b, zc157g⟩ := own_r1 _
    rw [show (((1 : Int32) + (((xi.toUInt32 >>> ((2 : Int32) &&& 31).toUInt32).toInt32) &&& (255 : Int32))).toUInt32.toUInt16.toUInt32.toInt32) = zc157 from zc157g]
    refine q_istoreN X0 hx hby d1_14 (l' := #[vI xi, vI 3, vI zc157, uS, uS]) rfl ?_
    refine q_iconst X0 hx hby d1_15 ?_
    refine q_iloadN X0 hx hby d1_16 rfl ?_
    refine q_bipush X0 hx hby d1_17 ?_
    refine gg (fun t k => XS.iushr X0.here hx rfl (hb hby d1_19) rfl k) ?_
    refine q_sipush X0 hx hby d1_20 ?_
    refine q_iand X0 hx hby d1_23 ?_
    refine q_iadd X0 hx hby d1_24 ?_
    refine gg (fun t k => XS.i2c X0.here hx rfl (hb hby d1_25) rfl k) ?_
    show own_Goes p e below (s₁.setTop (mkF m 26 #[vI xi, vI 3, vI zc157, uS, uS] [(.int (((1 : Int32) + (((xi.toUInt32 >>> ((10 : Int32) &&& 31).toUInt32).toInt32) &&& (255 : Int32))).toUInt32.toUInt16.toUInt32.toInt32))])) _
    obtain ⟨zc158, zc158a, zc158b, zc158g⟩ := own_r1 _
    rw [show (((1 : Int32) + (((xi.toUInt32 >>> ((10 : Int32) &&& 31).toUInt32).toInt32) &&& (255 : Int32))).toUInt32.toUInt16.toUInt32.toInt32) = zc158 from zc158g]
    refine q_istoreN X0 hx hby d1_26 (l' := #[vI xi, vI 3, vI zc157, vI zc158, uS]) rfl ?_
    refine q_iconst X0 hx hby d1_27 ?_
    refine q_iloadN X0 hx hby d1_28 rfl ?_
    refine q_bipush X0 hx hby d1_29 ?_
    refine gg (fun t k => XS.iushr X0.here hx rfl (hb hby d1_31) rfl k) ?_
    refine q_sipush X0 hx hby d1_32 ?_
    refine q_iand X0 hx hby d1_35 ?_
    refine q_iadd X0 hx hby d1_36 ?_
    refine gg (fun t k => XS.i2c X0.here hx rfl (hb hby d1_37) rfl k) ?_
    show own_Goes p e below (s₁.setTop (mkF m 38 #[vI xi, vI 3, vI zc157, vI zc158, uS] [(.int (((1 : Int32) + (((xi.toUInt32 >>> ((18 : Int32) &&& 31).toUInt32).toInt32) &&& (255 : Int32))).toUInt32.toUInt16.toUInt32.toInt32))])) _
    obtain ⟨zc159, zc159a, zc159b, zc159g⟩ := own_r1 _
    rw [show (((1 : Int32) + (((xi.toUInt32 >>> ((18 : Int32) &&& 31).toUInt32).toInt32) &&& (255 : Int32))).toUInt32.toUInt16.toUInt32.toInt32) = zc159 from zc159g]
    refine q_istore X0 hx hby d1_38 (l' := #[vI xi, vI 3, vI zc157, vI zc158, vI zc159]) rfl ?_
    refine q_iloadN X0 hx hby d1_40 rfl ?_
    refine q_iconst X0 hx hby d1_41 ?_
    refine q_icmpNo X0 hx hby d1_42 (flt (show ¬ ((3 : Int32) < (2 : Int32)) from by decide)).1 ?_
    refine q_iloadN X0 hx hby d1_45 rfl ?_
    refine q_bipush X0 hx hby d1_46 ?_
    refine gg (fun t k => XS.iushr X0.here hx rfl (hb hby d1_48) rfl k) ?_
    refine q_iconst X0 hx hby d1_49 ?_
    refine q_iand X0 hx hby d1_50 ?_
    by_cases hc160 : (((xi.toUInt32 >>> ((26 : Int32) &&& 31).toUInt32).toInt32) &&& (1 : Int32)) = (0 : Int32)
    · refine q_ifYes (pc := 51) X0 hx hby d1_51 (pc' := 77) ((if0 _ _).trans (teq hc160).1) (by decide) (by decide) ?_
      refine q_iloadN X0 hx hby d1_77 rfl ?_
      refine q_ifYes (pc := 78) X0 hx hby d1_78 (pc' := 92) ((if0 _ _).trans (feq (show ¬ ((3 : Int32) = (0 : Int32)) from by decide)).2) (by decide) (by decide) ?_
      refine q_iloadN X0 hx hby d1_92 rfl ?_
      refine q_iconst X0 hx hby d1_93 ?_
      show own_Goes p e below (s₁.setTop (mkF m 94 #[vI xi, vI 3, vI zc157, vI zc158, vI zc159] [.int 1, .int 3])) _
      refine q_icmpYes (pc := 94) X0 hx hby d1_94 (pc' := 112) (feq (show ¬ ((3 : Int32) = (1 : Int32)) from by decide)).2 (by decide) (by decide) ?_
      refine q_iloadN X0 hx hby d1_112 rfl ?_
      refine q_iconst X0 hx hby d1_113 ?_
      refine q_icmpYes (pc := 114) X0 hx hby d1_114 (pc' := 136) (feq (show ¬ ((3 : Int32) = (2 : Int32)) from by decide)).2 (by decide) (by decide) ?_
      obtain ⟨T161, h161, X161, e161, E161, A161, D161, -, st161⟩ := newO X0 hx hZ hown (wh hw 4 rfl) (wh hw 5 rfl) (wh hw 6 rfl) e0 (g := (mkF m 136 #[vI xi, vI 3, vI zc157, vI zc158, vI zc159] [])) rfl (hb hby d1_136) (by decide) (by decide)
      obtain ⟨b161, g161⟩ : ∃ z, z = h0.size := ⟨_, rfl⟩
      rw [← g161] at A161 D161 st161
      refine gg st161 ?_
      have O162 := O0.ext E161
      have sz163 : h0.size ≤ h161.size := E161.1
      have cs164 := CHr.ext E161 CR0.1
      have CR165 := CHr.trans CR0 cs164
      have hk166 := Nat.le_trans hk0 E161.1
      have K167 := K0.ext E161
      have l161 : @LT.lt Nat _ b161 h161.size := A161.lt
      have F161_value : Fld Z h161 b161 "java/lang/String" "value" "[B" .null := D161 (Or.inr (wh hw 20 rfl)) (ty := (.array .byte)) (by decide)
      have F161_coder : Fld Z h161 b161 "java/lang/String" "coder" "B" (.int 0) := D161 (Or.inr (wh hw 21 rfl)) (ty := .byte) (by decide)
      refine q_dup X161 hx hby d1_139 rfl ?_
      refine q_iconst X161 hx hby d1_140 ?_
      obtain ⟨T168, h168, k168, X168, e168, E168, A168, st168⟩ := newP X161 hx hZ (wh hw 7 rfl) e161 (g := (mkF m 141 #[vI xi, vI 3, vI zc157, vI zc158, vI zc159] [.int 3, .ref b161, .ref b161])) rfl (hb hby d1_141) rfl (by decide) (cap := 3) (by decide) (by decide) (by decide) (by decide)
      obtain ⟨b168, g168⟩ : ∃ z, z = h161.size := ⟨_, rfl⟩
      rw [← g168] at A168 st168
      refine gg st168 ?_
      have O169 := O162.ext E168
      have sz170 : h161.size ≤ h168.size := E168.1
      have cs171 := CHr.ext E168 CR165.1
      have CR172 := CHr.trans CR165 cs171
      have hk173 := Nat.le_trans hk166 E168.1
      have K174 := K167.ext E168
      have l168 : @LT.lt Nat _ b168 h168.size := A168.lt
      have V168 : Arv Z h168 b168 k168 .char (3 : Int32) [.int 0, .int 0, .int 0] (.int 0) := (Arv.new A168 (by decide)).pad (pad_rep [] (.int 0) 3)
      refine q_dup X168 hx hby d1_143 rfl ?_
      refine q_iconst X168 hx hby d1_144 ?_
      refine q_iloadN X168 hx hby d1_145 rfl ?_
      refine q_stC X168 hx hby hZ e168 V168 0 d1_146 (fun T176 h176 X176 e176 W176 V176 => ?_)
      rw [own_nar16 (own_C16m (by omega) (by omega))] at V176
      have O177 := O169.wr W176 (show n0 ≤ b168 by omega)
      have sz178 : h176.size = h168.size := Wr.size W176
      have cs179 := CHr.wr W176 (Safe.arv hZ.alike V168 (by decide)) CR172.1
      have CR180 := CHr.trans CR172 cs179
      have hk181 := Nat.le_trans hk173 (Nat.le_of_eq (Wr.size W176).symm)
      have K182 := K174.wr W176 (Or.inr (show h0.size ≤ b168 by omega))
      have N176 := Fr.snoc X176 N0 (show n0 ≤ b168 by omega)
      have V176 : Arv Z h176 b168 k168 .char (3 : Int32) [.int zc157, .int 0, .int 0] (.int 0) := V176
      refine q_dup X176 hx hby d1_147 rfl ?_
      refine q_iconst X176 hx hby d1_148 ?_
      show own_Goes p e below (T176.setTop (mkF m 149 #[vI xi, vI 3, vI zc157, vI zc158, vI zc159] [.int 1, .ref b168, .ref b168, .ref b161, .ref b161])) _
      refine q_iloadN X176 hx hby d1_149 rfl ?_
      refine q_stC X176 hx hby hZ e176 V176 1 d1_150 (fun T184 h184 X184 e184 W184 V184 => ?_)
      rw [own_nar16 (own_C16m (by omega) (by omega))] at V184
      have O185 := O177.wr W184 (show n0 ≤ b168 by omega)
      have sz186 : h184.size = h176.size := Wr.size W184
      have cs187 := CHr.wr W184 (Safe.arv hZ.alike V176 (by decide)) CR180.1
      have CR188 := CHr.trans CR180 cs187
      have hk189 := Nat.le_trans hk181 (Nat.le_of_eq (Wr.size W184).symm)
      have K190 := K182.wr W184 (Or.inr (show h0.size ≤ b168 by omega))
      have N184 := Fr.snoc X184 N176 (show n0 ≤ b168 by omega)
      have V184 : Arv Z h184 b168 k168 .char (3 : Int32) [.int zc157, .int zc158, .int 0] (.int 0) := V184
      refine q_dup X184 hx hby d1_151 rfl ?_
      refine q_iconst X184 hx hby d1_152 ?_
      refine q_iload X184 hx hby d1_153 rfl ?_
      refine q_stC X184 hx hby hZ e184 V184 2 d1_155 (fun T192 h192 X192 e192 W192 V192 => ?_)
      rw [own_nar16 (own_C16m (by omega) (by omega))] at V192
      have O193 := O185.wr W192 (show n0 ≤ b168 by omega)
      have sz194 : h192.size = h184.size := Wr.size W192
      have cs195 := CHr.wr W192 (Safe.arv hZ.alike V184 (by decide)) CR188.1
      have CR196 := CHr.trans CR188 cs195
      have hk197 := Nat.le_trans hk189 (Nat.le_of_eq (Wr.size W192).symm)
      have K198 := K190.wr W192 (Or.inr (show h0.size ≤ b168 by omega))
      have N192 := Fr.snoc X192 N184 (show n0 ≤ b168 by omega)
      have V192 : Arv Z h192 b168 k168 .char (3 : Int32) [.int zc157, .int zc158, .int zc159] (.int 0) := V192
      have f199 := ((((A161.ext E168).wr W176).wr W184).wr W192)
      have f200 := ((((F161_value.ext E168).other W176 (Or.inl (nE b161 b168 (by omega)))).other W184 (Or.inl (nE b161 b168 (by omega)))).other W192 (Or.inl (nE b161 b168 (by omega))))
      have f201 := ((((F161_coder.ext E168).other W176 (Or.inl (nE b161 b168 (by omega)))).other W184 (Or.inl (nE b161 b168 (by omega)))).other W192 (Or.inl (nE b161 b168 (by omega))))
      obtain ⟨_, _, ⟨T202, L202, k202, n202⟩, -, X202, ⟨Lc202, hQ202, l202, y202, z202⟩, st202⟩ := X192.specialBack hx (y := own_m16) rfl hown (mvT hZ (wh hw 8 rfl)) (mvT hZ (wh hw 9 rfl)) (mvT hZ (wh hw 10 rfl)) (by decide) (backOf (W := 1) (own_sc3 l Z a0 hw [] b161 b168 k168 zc157 zc158 zc159 h192 n0 O193 gz gfm gwC gwM G f199 f200 f201 (show n0 ≤ b161 by first | assumption | omega | decide) V192 (show (@LT.lt Nat _ b168 b161 ∨ @LT.lt Nat _ b161 b168) by first | assumption | omega | decide) (show own_C16 zc157 from (own_C16m (by omega) (by omega))) (show own_C16 zc158 from (own_C16m (by omega) (by omega))) (show own_C16 zc159 from (own_C16m (by omega) (by omega)))) hZ (wh hw 10 rfl) (wh hw 6 rfl) (by decide) (by decide)) (g := (mkF m 156 #[vI xi, vI 3, vI zc157, vI zc158, vI zc159] [.ref b168, .ref b161, .ref b161])) rfl (by rw [hml]; rfl) (Steps.refl _) (a := b161) (argsL := [.ref b168]) (rest := [.ref b161]) (lenOf own_pd_15 rfl) rfl (by show 2 * 0 + _ ≤ _; exact Nat.le_of_eq rfl) (hb hby d1_156) (fun _ _ => ⟨rfl, e192, (by decide : 2 + 2 ≤ _), (by decide : 7 + 9 ≤ _)⟩)
      dsimp only [Pt.U, Pt.locs, Pt.cells, Pt.slots] at X202 l202 y202 z202 st202 hQ202
      subst l202 y202 z202
      obtain ⟨h202, e202⟩ : ∃ z, T202.heap = z := ⟨_, rfl⟩
      rw [e202] at hQ202
      obtain ⟨Nc202, Kc202, rb_202, rfl, c202_0⟩ := hQ202
      have N202 := Fr.app N192 Nc202
      have SF203 : Safe Z consts_1 _ h192 b161 := own_safeNull hZ.alike f199 f200
      have O204 := O193.keep Kc202 (allS (show n0 ≤ b161 by omega) all0)
      have sz205 : h192.size ≤ h202.size := Kc202.1
      have cs206 := CHr.keep Kc202 (sfS SF203 sf0) CR196.1
      have CR207 := CHr.trans CR196 cs206
      have SF208 := CHr.safe cs206 (show @LT.lt Nat _ b161 h192.size by omega) SF203
      have hk209 := Nat.le_trans hk197 Kc202.1
      have K210 := Keep.trans K198 Kc202 (allS (Or.inr (show h0.size ≤ b161 by omega)) all0)
      have ltc202_0 : @LT.lt Nat _ b161 h202.size := c202_0.1.lt
      have luc202_0 : @LT.lt Nat _ rb_202 h202.size := c202_0.lt2
      refine own_goS st202 ?_
      refine own_endH X202 hS0 (show _ ≤ T202.heap.size by rw [e202]; exact hk209) e202 hh CR207 hZ (own_EW hw) (v := (some (.ref b161))) (fun h => by rw [hret] at h; cases h) hlk (by decide) (by decide) ?_ (fun fs hr => retOut X202 hx hret rfl (Or.inr (Or.inr (Or.inr (Or.inr ⟨rfl, rfl, rfl⟩)))) (hb hby d1_159) hr)
      show Q_own_str Z xi gz gfm gwC gwM h0 n0 _ T202.heap _
      rw [e202]
      exact ⟨N202, K210, b161, rb_202, ([zc157, zc158, zc159] : List Int32), rfl, c202_0, (Or.inr (Or.inr (Or.inr ⟨zc157, zc158, zc159, rfl, (by omega), (by omega), (by omega)⟩))), (show h0.size ≤ b161 by first | assumption | omega | decide)⟩
    · refine q_ifNo X0 hx hby d1_51 ((if0 _ _).trans (feq hc160).1) ?_
      refine gg (fun t k => Jvm.Stand.ldcI X0 hx hown (mv hZ (wh hw 150 rfl)) rfl (hb hby d1_54) k) ?_
      refine q_iloadN X0 hx hby d1_56 rfl ?_
      refine q_bipush X0 hx hby d1_57 ?_
      refine gg (fun t k => XS.iushr X0.here hx rfl (hb hby d1_59) rfl k) ?_
      refine q_bipush X0 hx hby d1_60 ?_
      refine q_iand X0 hx hby d1_62 ?_
      show own_Goes p e below (s₁.setTop (mkF m 63 #[vI xi, vI 3, vI zc157, vI zc158, vI zc159] [(.int (((xi.toUInt32 >>> ((27 : Int32) &&& 31).toUInt32).toInt32) &&& (7 : Int32))), .int 55296])) _
      refine q_iadd X0 hx hby d1_63 ?_
      refine gg (fun t k => XS.i2c X0.here hx rfl (hb hby d1_64) rfl k) ?_
      show own_Goes p e below (s₁.setTop (mkF m 65 #[vI xi, vI 3, vI zc157, vI zc158, vI zc159] [(.int (((55296 : Int32) + (((xi.toUInt32 >>> ((27 : Int32) &&& 31).toUInt32).toInt32) &&& (7 : Int32))).toUInt32.toUInt16.toUInt32.toInt32))])) _
      obtain ⟨zc211, zc211a, zc211b, zc211g⟩ := own_rh _
      rw [show (((55296 : Int32) + (((xi.toUInt32 >>> ((27 : Int32) &&& 31).toUInt32).toInt32) &&& (7 : Int32))).toUInt32.toUInt16.toUInt32.toInt32) = zc211 from zc211g]
      refine q_istoreN X0 hx hby d1_65 (l' := #[vI xi, vI 3, vI zc211, vI zc158, vI zc159]) rfl ?_
      refine gg (fun t k => Jvm.Stand.ldcI X0 hx hown (mv hZ (wh hw 151 rfl)) rfl (hb hby d1_66) k) ?_
      refine q_iloadN X0 hx hby d1_68 rfl ?_
      refine q_bipush X0 hx hby d1_69 ?_
      refine gg (fun t k => XS.iushr X0.here hx rfl (hb hby d1_71) rfl k) ?_
      refine q_iconst X0 hx hby d1_72 ?_
      refine q_iand X0 hx hby d1_73 ?_
      refine q_iadd X0 hx hby d1_74 ?_
      refine gg (fun t k => XS.i2c X0.here hx rfl (hb hby d1_75) rfl k) ?_
      show own_Goes p e below (s₁.setTop (mkF m 76 #[vI xi, vI 3, vI zc211, vI zc158, vI zc159] [(.int (((56320 : Int32) + (((xi.toUInt32 >>> ((30 : Int32) &&& 31).toUInt32).toInt32) &&& (3 : Int32))).toUInt32.toUInt16.toUInt32.toInt32))])) _
      obtain ⟨zc212, zc212a, zc212b, zc212g⟩ := own_rl _
      rw [show (((56320 : Int32) + (((xi.toUInt32 >>> ((30 : Int32) &&& 31).toUInt32).toInt32) &&& (3 : Int32))).toUInt32.toUInt16.toUInt32.toInt32) = zc212 from zc212g]
      refine q_istoreN X0 hx hby d1_76 (l' := #[vI xi, vI 3, vI zc211, vI zc212, vI zc159]) rfl ?_
      refine q_iloadN X0 hx hby d1_77 rfl ?_
      refine q_ifYes (pc := 78) X0 hx hby d1_78 (pc' := 92) ((if0 _ _).trans (feq (show ¬ ((3 : Int32) = (0 : Int32)) from by decide)).2) (by decide) (by decide) ?_
      refine q_iloadN X0 hx hby d1_92 rfl ?_
      refine q_iconst X0 hx hby d1_93 ?_
      refine q_icmpYes (pc := 94) X0 hx hby d1_94 (pc' := 112) (feq (show ¬ ((3 : Int32) = (1 : Int32)) from by decide)).2 (by decide) (by decide) ?_
      refine q_iloadN X0 hx hby d1_112 rfl ?_
      refine q_iconst X0 hx hby d1_113 ?_
      refine q_icmpYes (pc := 114) X0 hx hby d1_114 (pc' := 136) (feq (show ¬ ((3 : Int32) = (2 : Int32)) from by decide)).2 (by decide) (by decide) ?_
      obtain ⟨T213, h213, X213, e213, E213, A213, D213, -, st213⟩ := newO X0 hx hZ hown (wh hw 4 rfl) (wh hw 5 rfl) (wh hw 6 rfl) e0 (g := (mkF m 136 #[vI xi, vI 3, vI zc211, vI zc212, vI zc159] [])) rfl (hb hby d1_136) (by decide) (by decide)
      obtain ⟨b213, g213⟩ : ∃ z, z = h0.size := ⟨_, rfl⟩
      rw [← g213] at A213 D213 st213
      refine gg st213 ?_
      have O214 := O0.ext E213
      have sz215 : h0.size ≤ h213.size := E213.1
      have cs216 := CHr.ext E213 CR0.1
      have CR217 := CHr.trans CR0 cs216
      have hk218 := Nat.le_trans hk0 E213.1
      have K219 := K0.ext E213
      have l213 : @LT.lt Nat _ b213 h213.size := A213.lt
      have F213_value : Fld Z h213 b213 "java/lang/String" "value" "[B" .null := D213 (Or.inr (wh hw 20 rfl)) (ty := (.array .byte)) (by decide)
      have F213_coder : Fld Z h213 b213 "java/lang/String" "coder" "B" (.int 0) := D213 (Or.inr (wh hw 21 rfl)) (ty := .byte) (by decide)
      refine q_dup X213 hx hby d1_139 rfl ?_
      refine q_iconst X213 hx hby d1_140 ?_
      obtain ⟨T220, h220, k220, X220, e220, E220, A220, st220⟩ := newP X213 hx hZ (wh hw 7 rfl) e213 (g := (mkF m 141 #[vI xi, vI 3, vI zc211, vI zc212, vI zc159] [.int 3, .ref b213, .ref b213])) rfl (hb hby d1_141) rfl (by decide) (cap := 3) (by decide) (by decide) (by decide) (by decide)
      obtain ⟨b220, g220⟩ : ∃ z, z = h213.size := ⟨_, rfl⟩
      rw [← g220] at A220 st220
      refine gg st220 ?_
      have O221 := O214.ext E220
      have sz222 : h213.size ≤ h220.size := E220.1
      have cs223 := CHr.ext E220 CR217.1
      have CR224 := CHr.trans CR217 cs223
      have hk225 := Nat.le_trans hk218 E220.1
      have K226 := K219.ext E220
      have l220 : @LT.lt Nat _ b220 h220.size := A220.lt
      have V220 : Arv Z h220 b220 k220 .char (3 : Int32) [.int 0, .int 0, .int 0] (.int 0) := (Arv.new A220 (by decide)).pad (pad_rep [] (.int 0) 3)
      refine q_dup X220 hx hby d1_143 rfl ?_
      show own_Goes p e below (T220.setTop (mkF m 144 #[vI xi, vI 3, vI zc211, vI zc212, vI zc159] [.ref b220, .ref b220, .ref b213, .ref b213])) _
      refine q_iconst X220 hx hby d1_144 ?_
      refine q_iloadN X220 hx hby d1_145 rfl ?_
      refine q_stC X220 hx hby hZ e220 V220 0 d1_146 (fun T228 h228 X228 e228 W228 V228 => ?_)
      rw [own_nar16 (own_C16m (by omega) (by omega))] at V228
      have O229 := O221.wr W228 (show n0 ≤ b220 by omega)
      have sz230 : h228.size = h220.size := Wr.size W228
      have cs231 := CHr.wr W228 (Safe.arv hZ.alike V220 (by decide)) CR224.1
      have CR232 := CHr.trans CR224 cs231
      have hk233 := Nat.le_trans hk225 (Nat.le_of_eq (Wr.size W228).symm)
      have K234 := K226.wr W228 (Or.inr (show h0.size ≤ b220 by omega))
      have N228 := Fr.snoc X228 N0 (show n0 ≤ b220 by omega)
      have V228 : Arv Z h228 b220 k220 .char (3 : Int32) [.int zc211, .int 0, .int 0] (.int 0) := V228
      refine q_dup X228 hx hby d1_147 rfl ?_
      refine q_iconst X228 hx hby d1_148 ?_
      refine q_iloadN X228 hx hby d1_149 rfl ?_
      refine q_stC X228 hx hby hZ e228 V228 1 d1_150 (fun T236 h236 X236 e236 W236 V236 => ?_)
      rw [own_nar16 (own_C16m (by omega) (by omega))] at V236
      have O237 := O229.wr W236 (show n0 ≤ b220 by omega)
      have sz238 : h236.size = h228.size := Wr.size W236
      have cs239 := CHr.wr W236 (Safe.arv hZ.alike V228 (by decide)) CR232.1
      have CR240 := CHr.trans CR232 cs239
      have hk241 := Nat.le_trans hk233 (Nat.le_of_eq (Wr.size W236).symm)
      have K242 := K234.wr W236 (Or.inr (show h0.size ≤ b220 by omega))
      have N236 := Fr.snoc X236 N228 (show n0 ≤ b220 by omega)
      have V236 : Arv Z h236 b220 k220 .char (3 : Int32) [.int zc211, .int zc212, .int 0] (.int 0) := V236
      refine q_dup X236 hx hby d1_151 rfl ?_
      refine q_iconst X236 hx hby d1_152 ?_
      refine q_iload X236 hx hby d1_153 rfl ?_
      refine q_stC X236 hx hby hZ e236 V236 2 d1_155 (fun T244 h244 X244 e244 W244 V244 => ?_)
      rw [own_nar16 (own_C16m (by omega) (by omega))] at V244
      have O245 := O237.wr W244 (show n0 ≤ b220 by omega)
      have sz246 : h244.size = h236.size := Wr.size W244
      have cs247 := CHr.wr W244 (Safe.arv hZ.alike V236 (by decide)) CR240.1
      have CR248 := CHr.trans CR240 cs247
      have hk249 := Nat.le_trans hk241 (Nat.le_of_eq (Wr.size W244).symm)
      have K250 := K242.wr W244 (Or.inr (show h0.size ≤ b220 by omega))
      have N244 := Fr.snoc X244 N236 (show n0 ≤ b220 by omega)
      have V244 : Arv Z h244 b220 k220 .char (3 : Int32) [.int zc211, .int zc212, .int zc159] (.int 0) := V244
      have f251 := ((((A213.ext E220).wr W228).wr W236).wr W244)
      have f252 := ((((F213_value.ext E220).other W228 (Or.inl (nE b213 b220 (by omega)))).other W236 (Or.inl (nE b213 b220 (by omega)))).other W244 (Or.inl (nE b213 b220 (by omega))))
      have f253 := ((((F213_coder.ext E220).other W228 (Or.inl (nE b213 b220 (by omega)))).other W236 (Or.inl (nE b213 b220 (by omega)))).other W244 (Or.inl (nE b213 b220 (by omega))))
      obtain ⟨_, _, ⟨T254, L254, k254, n254⟩, -, X254, ⟨Lc254, hQ254, l254, y254, z254⟩, st254⟩ := X244.specialBack hx (y := own_m16) rfl hown (mvT hZ (wh hw 8 rfl)) (mvT hZ (wh hw 9 rfl)) (mvT hZ (wh hw 10 rfl)) (by decide) (backOf (W := 1) (own_sc3 l Z a0 hw [] b213 b220 k220 zc211 zc212 zc159 h244 n0 O245 gz gfm gwC gwM G f251 f252 f253 (show n0 ≤ b213 by first | assumption | omega | decide) V244 (show (@LT.lt Nat _ b220 b213 ∨ @LT.lt Nat _ b213 b220) by first | assumption | omega | decide) (show own_C16 zc211 from (own_C16m (by omega) (by omega))) (show own_C16 zc212 from (own_C16m (by omega) (by omega))) (show own_C16 zc159 from (own_C16m (by omega) (by omega)))) hZ (wh hw 10 rfl) (wh hw 6 rfl) (by decide) (by decide)) (g := (mkF m 156 #[vI xi, vI 3, vI zc211, vI zc212, vI zc159] [.ref b220, .ref b213, .ref b213])) rfl (by rw [hml]; rfl) (Steps.refl _) (a := b213) (argsL := [.ref b220]) (rest := [.ref b213]) (lenOf own_pd_15 rfl) rfl (by show 2 * 0 + _ ≤ _; exact Nat.le_of_eq rfl) (hb hby d1_156) (fun _ _ => ⟨rfl, e244, (by decide : 2 + 2 ≤ _), (by decide : 7 + 9 ≤ _)⟩)
      dsimp only [Pt.U, Pt.locs, Pt.cells, Pt.slots] at X254 l254 y254 z254 st254 hQ254
      subst l254 y254 z254
      obtain ⟨h254, e254⟩ : ∃ z, T254.heap = z := ⟨_, rfl⟩
      rw [e254] at hQ254
      obtain ⟨Nc254, Kc254, rb_254, rfl, c254_0⟩ := hQ254
      have N254 := Fr.app N244 Nc254
      have SF255 : Safe Z consts_1 _ h244 b213 := own_safeNull hZ.alike f251 f252
      have O256 := O245.keep Kc254 (allS (show n0 ≤ b213 by omega) all0)
      have sz257 : h244.size ≤ h254.size := Kc254.1
      have cs258 := CHr.keep Kc254 (sfS SF255 sf0) CR248.1
      have CR259 := CHr.trans CR248 cs258
      have SF260 := CHr.safe cs258 (show @LT.lt Nat _ b213 h244.size by omega) SF255
      have hk261 := Nat.le_trans hk249 Kc254.1
      have K262 := Keep.trans K250 Kc254 (allS (Or.inr (show h0.size ≤ b213 by omega)) all0)
      have ltc254_0 : @LT.lt Nat _ b213 h254.size := c254_0.1.lt
      have luc254_0 : @LT.lt Nat _ rb_254 h254.size := c254_0.lt2
      refine own_goS st254 ?_
      refine own_endH X254 hS0 (show _ ≤ T254.heap.size by rw [e254]; exact hk261) e254 hh CR259 hZ (own_EW hw) (v := (some (.ref b213))) (fun h => by rw [hret] at h; cases h) hlk (by decide) (by decide) ?_ (fun fs hr => retOut X254 hx hret rfl (Or.inr (Or.inr (Or.inr (Or.inr ⟨rfl, rfl, rfl⟩)))) (hb hby d1_159) hr)
      show Q_own_str Z xi gz gfm gwC gwM h0 n0 _ T254.heap _
      rw [e254]
      exact ⟨N254, K262, b213, rb_254, ([zc211, zc212, zc159] : List Int32), rfl, c254_0, (Or.inr (Or.inr (Or.inr ⟨zc211, zc212, zc159, rfl, (by omega), (by omega), (by omega)⟩))), (show h0.size ≤ b213 by first | assumption | omega | decide)⟩
theorem d10_0 : decode B10 0 = .ok (.aload_n 0, 1) := by decide +kernel
theorem d10_1 : decode B10 1 = .ok (.ifnonnull 12, 3) := by decide +kernel
theorem d10_13 : decode B10 13 = .ok (.aload_n 0, 1) := by decide +kernel
theorem d10_14 : decode B10 14 = .ok (.areturn, 1) := by decide +kernel
theorem own_pn_java_util_Objects : plainName "java/util/Objects" = true := by first | (simp [plainName, overriddenIn]; done) | decide +kernel
theorem own_ef_own_rnn2 (m : MethodId) (xa : Addr) (xb : Addr) : entryFrame m #[.ref xa, .ref xb] 2 = mkF m 0 #[vR xa, vR xb] [] := by first | (simp [entryFrame, mkF, argsToLocals, Value.category]; done) | rfl
def Q_own_rnn2 (Z : State) (xa : Addr) (xb : Addr) (h0 : Heap) (n0 : Nat) (v : Option Value) (h : Heap) (L : List Loc) : Prop := Fr n0 L ∧ h = h0 ∧ v = some (.ref xa)
theorem own_rnn2 (l : Launch) (Z : State) (a0 : Array Value) (hw : ∀ d ∈ tables_1, d.before a0 Z = true) (ws : List Jvm.Cond) (xa : Addr) (xb : Addr) (h0 : Heap) (n0 : Nat) (O0 : Old Z n0 h0) : own_Met l Z (⟨"java/util/Objects", "requireNonNull", "(Ljava/lang/Object;Ljava/lang/String;)Ljava/lang/Object;"⟩ : MethodName) jdk_31_method_11_code 2 (some (.object "java/lang/Object")) ws ({ frames := 0, cells := 0, slots := 0, locals := 0 } : Room) #[.ref xa, .ref xb] h0 (Q_own_rnn2 Z xa xb h0 n0) := by
  refine own_mk (plainFor_of_name own_pn_java_util_Objects) O0 ?_
  intro p e s m below meth c s₁ hx hby hml hZ hown hnm hlk hret X0 e0 N0 z0 z1
  refine own_cast (own_ef_own_rnn2 m xa xb) ?_
  show own_Goes p e below (s₁.setTop (mkF m 0 #[vR xa, vR xb] [])) _
  refine q_aloadN X0 hx hby d10_0 rfl rfl ?_
  refine gg (fun t k => XS.ifnonnullYes X0.here hx rfl (pc0 := 1) (pc' := 13) rfl (hb hby d10_1) rfl (by decide) (by decide) k) ?_
  refine q_aloadN X0 hx hby d10_13 rfl rfl ?_
  refine r_R X0 hx hby hret hlk d10_14 e0 ?_
  exact ⟨N0, rfl, rfl⟩
theorem d9_0 : decode B9 0 = .ok (.aload_n 0, 1) := by decide +kernel
theorem d9_1 : decode B9 1 = .ok (.aload_n 1, 1) := by decide +kernel
theorem d9_2 : decode B9 2 = .ok (.invokestatic 7, 3) := by decide +kernel
theorem own_pd_17 : parseMethodDescriptor "(Ljava/lang/Object;Ljava/lang/String;)Ljava/lang/Object;" = some ⟨[(.object "java/lang/Object"), (.object "java/lang/String")], some (.object "java/lang/Object")⟩ := by decide +kernel
theorem d9_5 : decode B9 5 = .ok (.pop, 1) := by decide +kernel
theorem d9_6 : decode B9 6 = .ok (.aload_n 0, 1) := by decide +kernel
theorem d9_7 : decode B9 7 = .ok (.invokevirtual 13, 3) := by decide +kernel
theorem own_pd_18 : parseMethodDescriptor "()I" = some ⟨[], some .int⟩ := by decide +kernel
theorem d9_10 : decode B9 10 = .ok (.istore_n 2, 1) := by decide +kernel
theorem d9_11 : decode B9 11 = .ok (.iconst 0, 1) := by decide +kernel
theorem d9_12 : decode B9 12 = .ok (.istore_n 3, 1) := by decide +kernel
theorem d9_13 : decode B9 13 = .ok (.iload_n 3, 1) := by decide +kernel
theorem d9_14 : decode B9 14 = .ok (.iload_n 2, 1) := by decide +kernel
theorem d9_15 : decode B9 15 = .ok (.if_icmp .ge 100, 3) := by decide +kernel
theorem d9_115 : decode B9 115 = .ok (.aload_n 0, 1) := by decide +kernel
theorem d9_116 : decode B9 116 = .ok (.areturn, 1) := by decide +kernel
theorem d9_18 : decode B9 18 = .ok (.aload_n 0, 1) := by decide +kernel
theorem d9_19 : decode B9 19 = .ok (.iload_n 3, 1) := by decide +kernel
theorem d9_20 : decode B9 20 = .ok (.invokevirtual 19, 3) := by decide +kernel
theorem own_pd_19 : parseMethodDescriptor "(I)C" = some ⟨[.int], some .char⟩ := by decide +kernel
theorem d9_23 : decode B9 23 = .ok (.istore 4, 2) := by decide +kernel
theorem d9_25 : decode B9 25 = .ok (.iload 4, 2) := by decide +kernel
theorem d9_27 : decode B9 27 = .ok (.ifCond .ne 17, 3) := by decide +kernel
theorem d9_44 : decode B9 44 = .ok (.iload 4, 2) := by decide +kernel
theorem d9_46 : decode B9 46 = .ok (.invokestatic 32, 3) := by decide +kernel
theorem own_pd_20 : parseMethodDescriptor "(C)Z" = some ⟨[.char], some .boolean⟩ := by decide +kernel
theorem d9_49 : decode B9 49 = .ok (.ifCond .eq 60, 3) := by decide +kernel
theorem d9_109 : decode B9 109 = .ok (.iinc 3 1, 3) := by decide +kernel
theorem d9_112 : decode B9 112 = .ok (.goto (-99), 3) := by decide +kernel
theorem d9_52 : decode B9 52 = .ok (.iload 4, 2) := by decide +kernel
theorem d9_54 : decode B9 54 = .ok (.invokestatic 38, 3) := by decide +kernel
theorem d9_57 : decode B9 57 = .ok (.ifCond .eq 27, 3) := by decide +kernel
theorem d9_60 : decode B9 60 = .ok (.iload_n 3, 1) := by decide +kernel
theorem d9_61 : decode B9 61 = .ok (.iconst 1, 1) := by decide +kernel
theorem d9_62 : decode B9 62 = .ok (.iadd, 1) := by decide +kernel
theorem d9_63 : decode B9 63 = .ok (.iload_n 2, 1) := by decide +kernel
theorem d9_64 : decode B9 64 = .ok (.if_icmp .ge 20, 3) := by decide +kernel
theorem d9_67 : decode B9 67 = .ok (.aload_n 0, 1) := by decide +kernel
theorem d9_68 : decode B9 68 = .ok (.iload_n 3, 1) := by decide +kernel
theorem d9_69 : decode B9 69 = .ok (.iconst 1, 1) := by decide +kernel
theorem d9_70 : decode B9 70 = .ok (.iadd, 1) := by decide +kernel
theorem d9_71 : decode B9 71 = .ok (.invokevirtual 19, 3) := by decide +kernel
theorem d9_74 : decode B9 74 = .ok (.invokestatic 41, 3) := by decide +kernel
theorem d9_77 : decode B9 77 = .ok (.ifCond .eq 7, 3) := by decide +kernel
theorem d9_80 : decode B9 80 = .ok (.iconst 1, 1) := by decide +kernel
theorem d9_81 : decode B9 81 = .ok (.goto 4, 3) := by decide +kernel
theorem d9_85 : decode B9 85 = .ok (.istore 5, 2) := by decide +kernel
theorem d9_87 : decode B9 87 = .ok (.iload 5, 2) := by decide +kernel
theorem d9_89 : decode B9 89 = .ok (.ifCond .ne 17, 3) := by decide +kernel
theorem d9_106 : decode B9 106 = .ok (.iinc 3 1, 3) := by decide +kernel
theorem own_pn_com_example_circa_once_circaonce_model_StorableText : plainName "com/example/circa_once/circaonce/model/StorableText" = true := by first | (simp [plainName, overriddenIn]; done) | decide +kernel
theorem own_ef_own_rq (m : MethodId) (xa : Addr) (xw : Addr) : entryFrame m #[.ref xa, .ref xw] 6 = mkF m 0 #[vR xa, vR xw, uS, uS, uS, uS] [] := by first | (simp [entryFrame, mkF, argsToLocals, Value.category]; done) | rfl
def Q_own_rq (Z : State) (xa : Addr) (xt : Addr) (xw : Addr) (cs : List Int32) (gz : Int32) (gfm : Value) (gwC : Addr) (gwM : Addr) (h0 : Heap) (n0 : Nat) (v : Option Value) (h : Heap) (L : List Loc) : Prop := Fr n0 L ∧ h = h0 ∧ v = some (.ref xa)
theorem own_rq (l : Launch) (Z : State) (a0 : Array Value) (hw : ∀ d ∈ tables_1, d.before a0 Z = true) (ws : List Jvm.Cond) (xa : Addr) (xt : Addr) (xw : Addr) (cs : List Int32) (h0 : Heap) (n0 : Nat) (O0 : Old Z n0 h0) (gz : Int32) (gfm : Value) (gwC : Addr) (gwM : Addr) (G : GG Z gz gfm gwC gwM) (P0 : own_Str Z h0 xa xt cs) (P1 : own_Ok cs) : own_Met l Z (⟨"com/example/circa_once/circaonce/model/StorableText", "require", "(Ljava/lang/String;Ljava/lang/String;)Ljava/lang/String;"⟩ : MethodName) prog_16_method_2_code 6 (some (.object "java/lang/String")) ws ({ frames := 5, cells := 0, slots := 0, locals := 66 } : Room) #[.ref xa, .ref xw] h0 (Q_own_rq Z xa xt xw cs gz gfm gwC gwM h0 n0) := by
  refine own_mk (plainFor_of_name own_pn_com_example_circa_once_circaonce_model_StorableText) O0 ?_
  intro p e s m below meth c s₁ hx hby hml hZ hown hnm hlk hret X0 e0 N0 z0 z1
  refine own_cast (own_ef_own_rq m xa xw) ?_
  show own_Goes p e below (s₁.setTop (mkF m 0 #[vR xa, vR xw, uS, uS, uS, uS] [])) _
  obtain ⟨G0, G1, G2, G3, G4, G5, G6, G7, G8, G9, G10, G11⟩ := id G
  have ltG8 : @LT.lt Nat _ gwC Z.heap.size := G8.lt
  have ltG10 : @LT.lt Nat _ gwM Z.heap.size := G10.lt
  have ltP0 : @LT.lt Nat _ xa h0.size := P0.1.lt
  have luP0 : @LT.lt Nat _ xt h0.size := P0.lt2
  rcases P1 with rfl | ⟨c0, rfl, ok0⟩ | ⟨c0, c1, rfl, ok0, ok1⟩ | ⟨c0, c1, c2, rfl, ok0, ok1, ok2⟩
  · show own_Goes p e below (s₁.setTop (mkF m 0 #[vR xa, vR xw, uS, uS, uS, uS] [])) _
    refine q_aloadN X0 hx hby d9_0 rfl rfl ?_
    refine q_aloadN X0 hx hby d9_1 rfl rfl ?_
    refine k_S X0 hx hby hZ hown (wh hw 46 rfl) (wh hw 47 rfl) (W := 0) (own_rnn2 l Z a0 hw [] xa xw h0 n0 O0) (wh hw 49 rfl) (wh hw 48 rfl) e0  hml (argsL := [.ref xa, .ref xw]) (rest := []) own_pd_17 d9_2 (fun _ T1 L1 X1 hQ1 => ?_)
    obtain ⟨Nc1, e1, rfl⟩ := hQ1
    have N1 := Fr.app N0 Nc1
    refine gg (fun t k => XS.pop X1.here hx rfl (hb hby d9_5) rfl rfl k) ?_
    refine q_aloadN X1 hx hby d9_6 rfl rfl ?_
    refine k_V X1 hx hby hZ hown (wh hw 50 rfl) (wh hw 51 rfl) (wh hw 53 rfl) (wh hw 52 rfl) (W := 0) (own_len0 l Z a0 hw [] xa xt h0 n0 O0 gz gfm gwC gwM G P0) (wh hw 54 rfl) (wh hw 6 rfl) e1 P0.1  hml (argsL := []) (rest := []) own_pd_18 d9_7 (fun _ T2 L2 X2 hQ2 => ?_)
    obtain ⟨Nc2, e2, rfl⟩ := hQ2
    have N2 := Fr.app N1 Nc2
    refine q_istoreN X2 hx hby d9_10 (l' := #[vR xa, vR xw, vI 0, uS, uS, uS]) rfl ?_
    refine q_iconst X2 hx hby d9_11 ?_
    refine q_istoreN X2 hx hby d9_12 (l' := #[vR xa, vR xw, vI 0, vI 0, uS, uS]) rfl ?_
    refine q_iloadN X2 hx hby d9_13 rfl ?_
    refine q_iloadN X2 hx hby d9_14 rfl ?_
    refine q_icmpYes (pc := 15) X2 hx hby d9_15 (pc' := 115) (flt (show ¬ ((0 : Int32) < (0 : Int32)) from by decide)).2.1 (by decide) (by decide) ?_
    refine q_aloadN X2 hx hby d9_115 rfl rfl ?_
    refine r_R X2 hx hby hret hlk d9_116 e2 ?_
    exact ⟨N2, rfl, rfl⟩
  · show own_Goes p e below (s₁.setTop (mkF m 0 #[vR xa, vR xw, uS, uS, uS, uS] [])) _
    refine q_aloadN X0 hx hby d9_0 rfl rfl ?_
    refine q_aloadN X0 hx hby d9_1 rfl rfl ?_
    refine k_S X0 hx hby hZ hown (wh hw 46 rfl) (wh hw 47 rfl) (W := 0) (own_rnn2 l Z a0 hw [] xa xw h0 n0 O0) (wh hw 49 rfl) (wh hw 48 rfl) e0  hml (argsL := [.ref xa, .ref xw]) (rest := []) own_pd_17 d9_2 (fun _ T3 L3 X3 hQ3 => ?_)
    obtain ⟨Nc3, e3, rfl⟩ := hQ3
    have N3 := Fr.app N0 Nc3
    refine gg (fun t k => XS.pop X3.here hx rfl (hb hby d9_5) rfl rfl k) ?_
    refine q_aloadN X3 hx hby d9_6 rfl rfl ?_
    refine k_V X3 hx hby hZ hown (wh hw 50 rfl) (wh hw 51 rfl) (wh hw 53 rfl) (wh hw 52 rfl) (W := 0) (own_len1 l Z a0 hw [] xa xt c0 h0 n0 O0 gz gfm gwC gwM G P0) (wh hw 54 rfl) (wh hw 6 rfl) e3 P0.1  hml (argsL := []) (rest := []) own_pd_18 d9_7 (fun _ T4 L4 X4 hQ4 => ?_)
    obtain ⟨Nc4, e4, rfl⟩ := hQ4
    have N4 := Fr.app N3 Nc4
    refine q_istoreN X4 hx hby d9_10 (l' := #[vR xa, vR xw, vI 1, uS, uS, uS]) rfl ?_
    refine q_iconst X4 hx hby d9_11 ?_
    refine q_istoreN X4 hx hby d9_12 (l' := #[vR xa, vR xw, vI 1, vI 0, uS, uS]) rfl ?_
    refine q_iloadN X4 hx hby d9_13 rfl ?_
    refine q_iloadN X4 hx hby d9_14 rfl ?_
    refine q_icmpNo X4 hx hby d9_15 (tlt (show ((0 : Int32) < (1 : Int32)) from by decide)).2.1 ?_
    refine q_aloadN X4 hx hby d9_18 rfl rfl ?_
    refine q_iloadN X4 hx hby d9_19 rfl ?_
    show own_Goes p e below (T4.setTop (mkF m 20 #[vR xa, vR xw, vI 1, vI 0, uS, uS] [.int 0, .ref xa])) _
    refine k_V X4 hx hby hZ hown (wh hw 61 rfl) (wh hw 62 rfl) (wh hw 64 rfl) (wh hw 63 rfl) (W := 0) (own_ca1_0 l Z a0 hw [] xa xt c0 h0 n0 O0 gz gfm gwC gwM G P0) (wh hw 65 rfl) (wh hw 6 rfl) e4 P0.1  hml (argsL := [.int 0]) (rest := []) own_pd_19 d9_20 (fun _ T5 L5 X5 hQ5 => ?_)
    obtain ⟨Nc5, e5, rfl⟩ := hQ5
    have N5 := Fr.app N4 Nc5
    refine q_istore X5 hx hby d9_23 (l' := #[vR xa, vR xw, vI 1, vI 0, vI c0, uS]) rfl ?_
    refine q_iload X5 hx hby d9_25 rfl ?_
    refine q_ifYes (pc := 27) X5 hx hby d9_27 (pc' := 44) ((if0 _ _).trans (feq (show ¬ (c0 = (0 : Int32)) from (own_ne0 (by omega)))).2) (by decide) (by decide) ?_
    refine q_iload X5 hx hby d9_44 rfl ?_
    refine k_S X5 hx hby hZ hown (wh hw 83 rfl) (wh hw 84 rfl) (W := 0) (own_suC l Z a0 hw [] c0 h0 n0 O0) (wh hw 86 rfl) (wh hw 85 rfl) e5  hml (argsL := [.int c0]) (rest := []) own_pd_20 d9_46 (fun _ T6 L6 X6 hQ6 => ?_)
    obtain ⟨Nc6, e6, rfl⟩ := hQ6
    have N6 := Fr.app N5 Nc6
    refine q_ifYes (pc := 49) X6 hx hby d9_49 (pc' := 109) ((if0 _ _).trans (teq (show ((own_su c0) = (0 : Int32)) from (own_suZ (by omega)))).1) (by decide) (by decide) ?_
    refine gg (fun t k => XS.iinc X6.here hx rfl (hb hby d9_109) rfl (l' := #[vR xa, vR xw, vI 1, vI ((0 : Int32) + (1 : Int32)), vI c0, uS]) rfl k) ?_
    show own_Goes p e below (T6.setTop (mkF m 112 #[vR xa, vR xw, vI 1, vI ((0 : Int32) + (1 : Int32)), vI c0, uS] [])) _
    rw [show ((0 : Int32) + (1 : Int32)) = (1 : Int32) from by decide]
    refine q_goto (pc := 112) X6 hx hby d9_112 (pc' := 13) (by decide) (by decide) ?_
    refine q_iloadN X6 hx hby d9_13 rfl ?_
    refine q_iloadN X6 hx hby d9_14 rfl ?_
    refine q_icmpYes (pc := 15) X6 hx hby d9_15 (pc' := 115) (flt (show ¬ ((1 : Int32) < (1 : Int32)) from by decide)).2.1 (by decide) (by decide) ?_
    refine q_aloadN X6 hx hby d9_115 rfl rfl ?_
    refine r_R X6 hx hby hret hlk d9_116 e6 ?_
    exact ⟨N6, rfl, rfl⟩
  · show own_Goes p e below (s₁.setTop (mkF m 0 #[vR xa, vR xw, uS, uS, uS, uS] [])) _
    refine q_aloadN X0 hx hby d9_0 rfl rfl ?_
    refine q_aloadN X0 hx hby d9_1 rfl rfl ?_
    refine k_S X0 hx hby hZ hown (wh hw 46 rfl) (wh hw 47 rfl) (W := 0) (own_rnn2 l Z a0 hw [] xa xw h0 n0 O0) (wh hw 49 rfl) (wh hw 48 rfl) e0  hml (argsL := [.ref xa, .ref xw]) (rest := []) own_pd_17 d9_2 (fun _ T7 L7 X7 hQ7 => ?_)
    obtain ⟨Nc7, e7, rfl⟩ := hQ7
    have N7 := Fr.app N0 Nc7
    refine gg (fun t k => XS.pop X7.here hx rfl (hb hby d9_5) rfl rfl k) ?_
    refine q_aloadN X7 hx hby d9_6 rfl rfl ?_
    refine k_V X7 hx hby hZ hown (wh hw 50 rfl) (wh hw 51 rfl) (wh hw 53 rfl) (wh hw 52 rfl) (W := 0) (own_len2 l Z a0 hw [] xa xt c0 c1 h0 n0 O0 gz gfm gwC gwM G P0) (wh hw 54 rfl) (wh hw 6 rfl) e7 P0.1  hml (argsL := []) (rest := []) own_pd_18 d9_7 (fun _ T8 L8 X8 hQ8 => ?_)
    obtain ⟨Nc8, e8, rfl⟩ := hQ8
    have N8 := Fr.app N7 Nc8
    refine q_istoreN X8 hx hby d9_10 (l' := #[vR xa, vR xw, vI 2, uS, uS, uS]) rfl ?_
    refine q_iconst X8 hx hby d9_11 ?_
    refine q_istoreN X8 hx hby d9_12 (l' := #[vR xa, vR xw, vI 2, vI 0, uS, uS]) rfl ?_
    refine q_iloadN X8 hx hby d9_13 rfl ?_
    refine q_iloadN X8 hx hby d9_14 rfl ?_
    refine q_icmpNo X8 hx hby d9_15 (tlt (show ((0 : Int32) < (2 : Int32)) from by decide)).2.1 ?_
    refine q_aloadN X8 hx hby d9_18 rfl rfl ?_
    refine q_iloadN X8 hx hby d9_19 rfl ?_
    show own_Goes p e below (T8.setTop (mkF m 20 #[vR xa, vR xw, vI 2, vI 0, uS, uS] [.int 0, .ref xa])) _
    refine k_V X8 hx hby hZ hown (wh hw 61 rfl) (wh hw 62 rfl) (wh hw 64 rfl) (wh hw 63 rfl) (W := 0) (own_ca2_0 l Z a0 hw [] xa xt c0 c1 h0 n0 O0 gz gfm gwC gwM G P0) (wh hw 65 rfl) (wh hw 6 rfl) e8 P0.1  hml (argsL := [.int 0]) (rest := []) own_pd_19 d9_20 (fun _ T9 L9 X9 hQ9 => ?_)
    obtain ⟨Nc9, e9, rfl⟩ := hQ9
    have N9 := Fr.app N8 Nc9
    refine q_istore X9 hx hby d9_23 (l' := #[vR xa, vR xw, vI 2, vI 0, vI c0, uS]) rfl ?_
    refine q_iload X9 hx hby d9_25 rfl ?_
    refine q_ifYes (pc := 27) X9 hx hby d9_27 (pc' := 44) ((if0 _ _).trans (feq (show ¬ (c0 = (0 : Int32)) from (own_ne0 (by omega)))).2) (by decide) (by decide) ?_
    refine q_iload X9 hx hby d9_44 rfl ?_
    refine k_S X9 hx hby hZ hown (wh hw 83 rfl) (wh hw 84 rfl) (W := 0) (own_suC l Z a0 hw [] c0 h0 n0 O0) (wh hw 86 rfl) (wh hw 85 rfl) e9  hml (argsL := [.int c0]) (rest := []) own_pd_20 d9_46 (fun _ T10 L10 X10 hQ10 => ?_)
    obtain ⟨Nc10, e10, rfl⟩ := hQ10
    have N10 := Fr.app N9 Nc10
    by_cases hc11 : (own_su c0) = (0 : Int32)
    · refine q_ifYes (pc := 49) X10 hx hby d9_49 (pc' := 109) ((if0 _ _).trans (teq hc11).1) (by decide) (by decide) ?_
      refine gg (fun t k => XS.iinc X10.here hx rfl (hb hby d9_109) rfl (l' := #[vR xa, vR xw, vI 2, vI ((0 : Int32) + (1 : Int32)), vI c0, uS]) rfl k) ?_
      show own_Goes p e below (T10.setTop (mkF m 112 #[vR xa, vR xw, vI 2, vI ((0 : Int32) + (1 : Int32)), vI c0, uS] [])) _
      rw [show ((0 : Int32) + (1 : Int32)) = (1 : Int32) from by decide]
      refine q_goto (pc := 112) X10 hx hby d9_112 (pc' := 13) (by decide) (by decide) ?_
      refine q_iloadN X10 hx hby d9_13 rfl ?_
      refine q_iloadN X10 hx hby d9_14 rfl ?_
      refine q_icmpNo X10 hx hby d9_15 (tlt (show ((1 : Int32) < (2 : Int32)) from by decide)).2.1 ?_
      refine q_aloadN X10 hx hby d9_18 rfl rfl ?_
      refine q_iloadN X10 hx hby d9_19 rfl ?_
      refine k_V X10 hx hby hZ hown (wh hw 61 rfl) (wh hw 62 rfl) (wh hw 64 rfl) (wh hw 63 rfl) (W := 0) (own_ca2_1 l Z a0 hw [] xa xt c0 c1 h0 n0 O0 gz gfm gwC gwM G P0) (wh hw 65 rfl) (wh hw 6 rfl) e10 P0.1  hml (argsL := [.int 1]) (rest := []) own_pd_19 d9_20 (fun _ T12 L12 X12 hQ12 => ?_)
      obtain ⟨Nc12, e12, rfl⟩ := hQ12
      have N12 := Fr.app N10 Nc12
      refine q_istore X12 hx hby d9_23 (l' := #[vR xa, vR xw, vI 2, vI 1, vI c1, uS]) rfl ?_
      refine q_iload X12 hx hby d9_25 rfl ?_
      refine q_ifYes (pc := 27) X12 hx hby d9_27 (pc' := 44) ((if0 _ _).trans (feq (show ¬ (c1 = (0 : Int32)) from (own_ne0 (by have := own_suF hc11; omega)))).2) (by decide) (by decide) ?_
      refine q_iload X12 hx hby d9_44 rfl ?_
      refine k_S X12 hx hby hZ hown (wh hw 83 rfl) (wh hw 84 rfl) (W := 0) (own_suC l Z a0 hw [] c1 h0 n0 O0) (wh hw 86 rfl) (wh hw 85 rfl) e12  hml (argsL := [.int c1]) (rest := []) own_pd_20 d9_46 (fun _ T13 L13 X13 hQ13 => ?_)
      obtain ⟨Nc13, e13, rfl⟩ := hQ13
      have N13 := Fr.app N12 Nc13
      refine q_ifYes (pc := 49) X13 hx hby d9_49 (pc' := 109) ((if0 _ _).trans (teq (show ((own_su c1) = (0 : Int32)) from (own_suZ (by have := own_suF hc11; omega)))).1) (by decide) (by decide) ?_
      refine gg (fun t k => XS.iinc X13.here hx rfl (hb hby d9_109) rfl (l' := #[vR xa, vR xw, vI 2, vI ((1 : Int32) + (1 : Int32)), vI c1, uS]) rfl k) ?_
      show own_Goes p e below (T13.setTop (mkF m 112 #[vR xa, vR xw, vI 2, vI ((1 : Int32) + (1 : Int32)), vI c1, uS] [])) _
      rw [show ((1 : Int32) + (1 : Int32)) = (2 : Int32) from by decide]
      refine q_goto (pc := 112) X13 hx hby d9_112 (pc' := 13) (by decide) (by decide) ?_
      refine q_iloadN X13 hx hby d9_13 rfl ?_
      refine q_iloadN X13 hx hby d9_14 rfl ?_
      refine q_icmpYes (pc := 15) X13 hx hby d9_15 (pc' := 115) (flt (show ¬ ((2 : Int32) < (2 : Int32)) from by decide)).2.1 (by decide) (by decide) ?_
      refine q_aloadN X13 hx hby d9_115 rfl rfl ?_
      refine r_R X13 hx hby hret hlk d9_116 e13 ?_
      exact ⟨N13, rfl, rfl⟩
    · refine q_ifNo X10 hx hby d9_49 ((if0 _ _).trans (feq hc11).1) ?_
      refine q_iload X10 hx hby d9_52 rfl ?_
      refine k_S X10 hx hby hZ hown (wh hw 182 rfl) (wh hw 183 rfl) (W := 0) (own_hsC l Z a0 hw [] c0 h0 n0 O0) (wh hw 184 rfl) (wh hw 85 rfl) e10  hml (argsL := [.int c0]) (rest := []) own_pd_20 d9_54 (fun _ T14 L14 X14 hQ14 => ?_)
      obtain ⟨Nc14, e14, rfl⟩ := hQ14
      have N14 := Fr.app N10 Nc14
      refine q_ifNo X14 hx hby d9_57 ((if0 _ _).trans (feq (show ¬ ((own_hs c0) = (0 : Int32)) from (own_hsN (by have := own_suT hc11; omega)))).1) ?_
      refine q_iloadN X14 hx hby d9_60 rfl ?_
      refine q_iconst X14 hx hby d9_61 ?_
      refine q_iadd X14 hx hby d9_62 ?_
      show own_Goes p e below (T14.setTop (mkF m 63 #[vR xa, vR xw, vI 2, vI 0, vI c0, uS] [(.int ((0 : Int32) + (1 : Int32)))])) _
      rw [show ((0 : Int32) + (1 : Int32)) = (1 : Int32) from by decide]
      refine q_iloadN X14 hx hby d9_63 rfl ?_
      refine q_icmpNo X14 hx hby d9_64 (tlt (show ((1 : Int32) < (2 : Int32)) from by decide)).2.1 ?_
      refine q_aloadN X14 hx hby d9_67 rfl rfl ?_
      refine q_iloadN X14 hx hby d9_68 rfl ?_
      refine q_iconst X14 hx hby d9_69 ?_
      refine q_iadd X14 hx hby d9_70 ?_
      show own_Goes p e below (T14.setTop (mkF m 71 #[vR xa, vR xw, vI 2, vI 0, vI c0, uS] [(.int ((0 : Int32) + (1 : Int32))), .ref xa])) _
      rw [show ((0 : Int32) + (1 : Int32)) = (1 : Int32) from by decide]
      refine k_V X14 hx hby hZ hown (wh hw 61 rfl) (wh hw 62 rfl) (wh hw 64 rfl) (wh hw 63 rfl) (W := 0) (own_ca2_1 l Z a0 hw [] xa xt c0 c1 h0 n0 O0 gz gfm gwC gwM G P0) (wh hw 65 rfl) (wh hw 6 rfl) e14 P0.1  hml (argsL := [.int 1]) (rest := []) own_pd_19 d9_71 (fun _ T15 L15 X15 hQ15 => ?_)
      obtain ⟨Nc15, e15, rfl⟩ := hQ15
      have N15 := Fr.app N14 Nc15
      refine k_S X15 hx hby hZ hown (wh hw 186 rfl) (wh hw 187 rfl) (W := 0) (own_lsC l Z a0 hw [] c1 h0 n0 O0) (wh hw 188 rfl) (wh hw 85 rfl) e15  hml (argsL := [.int c1]) (rest := []) own_pd_20 d9_74 (fun _ T16 L16 X16 hQ16 => ?_)
      obtain ⟨Nc16, e16, rfl⟩ := hQ16
      have N16 := Fr.app N15 Nc16
      refine q_ifNo X16 hx hby d9_77 ((if0 _ _).trans (feq (show ¬ ((own_ls c1) = (0 : Int32)) from (own_lsN (by have := own_suT hc11; omega)))).1) ?_
      refine q_iconst X16 hx hby d9_80 ?_
      refine q_goto (pc := 81) X16 hx hby d9_81 (pc' := 85) (by decide) (by decide) ?_
      refine q_istore X16 hx hby d9_85 (l' := #[vR xa, vR xw, vI 2, vI 0, vI c0, vI 1]) rfl ?_
      refine q_iload X16 hx hby d9_87 rfl ?_
      refine q_ifYes (pc := 89) X16 hx hby d9_89 (pc' := 106) ((if0 _ _).trans (feq (show ¬ ((1 : Int32) = (0 : Int32)) from by decide)).2) (by decide) (by decide) ?_
      refine gg (fun t k => XS.iinc X16.here hx rfl (hb hby d9_106) rfl (l' := #[vR xa, vR xw, vI 2, vI ((0 : Int32) + (1 : Int32)), vI c0, vI 1]) rfl k) ?_
      show own_Goes p e below (T16.setTop (mkF m 109 #[vR xa, vR xw, vI 2, vI ((0 : Int32) + (1 : Int32)), vI c0, vI 1] [])) _
      rw [show ((0 : Int32) + (1 : Int32)) = (1 : Int32) from by decide]
      refine gg (fun t k => XS.iinc X16.here hx rfl (hb hby d9_109) rfl (l' := #[vR xa, vR xw, vI 2, vI ((1 : Int32) + (1 : Int32)), vI c0, vI 1]) rfl k) ?_
      show own_Goes p e below (T16.setTop (mkF m 112 #[vR xa, vR xw, vI 2, vI ((1 : Int32) + (1 : Int32)), vI c0, vI 1] [])) _
      rw [show ((1 : Int32) + (1 : Int32)) = (2 : Int32) from by decide]
      refine q_goto (pc := 112) X16 hx hby d9_112 (pc' := 13) (by decide) (by decide) ?_
      refine q_iloadN X16 hx hby d9_13 rfl ?_
      refine q_iloadN X16 hx hby d9_14 rfl ?_
      refine q_icmpYes (pc := 15) X16 hx hby d9_15 (pc' := 115) (flt (show ¬ ((2 : Int32) < (2 : Int32)) from by decide)).2.1 (by decide) (by decide) ?_
      refine q_aloadN X16 hx hby d9_115 rfl rfl ?_
      refine r_R X16 hx hby hret hlk d9_116 e16 ?_
      exact ⟨N16, rfl, rfl⟩
  · show own_Goes p e below (s₁.setTop (mkF m 0 #[vR xa, vR xw, uS, uS, uS, uS] [])) _
    refine q_aloadN X0 hx hby d9_0 rfl rfl ?_
    refine q_aloadN X0 hx hby d9_1 rfl rfl ?_
    refine k_S X0 hx hby hZ hown (wh hw 46 rfl) (wh hw 47 rfl) (W := 0) (own_rnn2 l Z a0 hw [] xa xw h0 n0 O0) (wh hw 49 rfl) (wh hw 48 rfl) e0  hml (argsL := [.ref xa, .ref xw]) (rest := []) own_pd_17 d9_2 (fun _ T17 L17 X17 hQ17 => ?_)
    obtain ⟨Nc17, e17, rfl⟩ := hQ17
    have N17 := Fr.app N0 Nc17
    refine gg (fun t k => XS.pop X17.here hx rfl (hb hby d9_5) rfl rfl k) ?_
    refine q_aloadN X17 hx hby d9_6 rfl rfl ?_
    refine k_V X17 hx hby hZ hown (wh hw 50 rfl) (wh hw 51 rfl) (wh hw 53 rfl) (wh hw 52 rfl) (W := 0) (own_len3 l Z a0 hw [] xa xt c0 c1 c2 h0 n0 O0 gz gfm gwC gwM G P0) (wh hw 54 rfl) (wh hw 6 rfl) e17 P0.1  hml (argsL := []) (rest := []) own_pd_18 d9_7 (fun _ T18 L18 X18 hQ18 => ?_)
    obtain ⟨Nc18, e18, rfl⟩ := hQ18
    have N18 := Fr.app N17 Nc18
    refine q_istoreN X18 hx hby d9_10 (l' := #[vR xa, vR xw, vI 3, uS, uS, uS]) rfl ?_
    refine q_iconst X18 hx hby d9_11 ?_
    refine q_istoreN X18 hx hby d9_12 (l' := #[vR xa, vR xw, vI 3, vI 0, uS, uS]) rfl ?_
    refine q_iloadN X18 hx hby d9_13 rfl ?_
    refine q_iloadN X18 hx hby d9_14 rfl ?_
    refine q_icmpNo X18 hx hby d9_15 (tlt (show ((0 : Int32) < (3 : Int32)) from by decide)).2.1 ?_
    refine q_aloadN X18 hx hby d9_18 rfl rfl ?_
    refine q_iloadN X18 hx hby d9_19 rfl ?_
    show own_Goes p e below (T18.setTop (mkF m 20 #[vR xa, vR xw, vI 3, vI 0, uS, uS] [.int 0, .ref xa])) _
    refine k_V X18 hx hby hZ hown (wh hw 61 rfl) (wh hw 62 rfl) (wh hw 64 rfl) (wh hw 63 rfl) (W := 0) (own_ca3_0 l Z a0 hw [] xa xt c0 c1 c2 h0 n0 O0 gz gfm gwC gwM G P0) (wh hw 65 rfl) (wh hw 6 rfl) e18 P0.1  hml (argsL := [.int 0]) (rest := []) own_pd_19 d9_20 (fun _ T19 L19 X19 hQ19 => ?_)
    obtain ⟨Nc19, e19, rfl⟩ := hQ19
    have N19 := Fr.app N18 Nc19
    refine q_istore X19 hx hby d9_23 (l' := #[vR xa, vR xw, vI 3, vI 0, vI c0, uS]) rfl ?_
    refine q_iload X19 hx hby d9_25 rfl ?_
    refine q_ifYes (pc := 27) X19 hx hby d9_27 (pc' := 44) ((if0 _ _).trans (feq (show ¬ (c0 = (0 : Int32)) from (own_ne0 (by omega)))).2) (by decide) (by decide) ?_
    refine q_iload X19 hx hby d9_44 rfl ?_
    refine k_S X19 hx hby hZ hown (wh hw 83 rfl) (wh hw 84 rfl) (W := 0) (own_suC l Z a0 hw [] c0 h0 n0 O0) (wh hw 86 rfl) (wh hw 85 rfl) e19  hml (argsL := [.int c0]) (rest := []) own_pd_20 d9_46 (fun _ T20 L20 X20 hQ20 => ?_)
    obtain ⟨Nc20, e20, rfl⟩ := hQ20
    have N20 := Fr.app N19 Nc20
    by_cases hc21 : (own_su c0) = (0 : Int32)
    · refine q_ifYes (pc := 49) X20 hx hby d9_49 (pc' := 109) ((if0 _ _).trans (teq hc21).1) (by decide) (by decide) ?_
      refine gg (fun t k => XS.iinc X20.here hx rfl (hb hby d9_109) rfl (l' := #[vR xa, vR xw, vI 3, vI ((0 : Int32) + (1 : Int32)), vI c0, uS]) rfl k) ?_
      show own_Goes p e below (T20.setTop (mkF m 112 #[vR xa, vR xw, vI 3, vI ((0 : Int32) + (1 : Int32)), vI c0, uS] [])) _
      rw [show ((0 : Int32) + (1 : Int32)) = (1 : Int32) from by decide]
      refine q_goto (pc := 112) X20 hx hby d9_112 (pc' := 13) (by decide) (by decide) ?_
      refine q_iloadN X20 hx hby d9_13 rfl ?_
      refine q_iloadN X20 hx hby d9_14 rfl ?_
      refine q_icmpNo X20 hx hby d9_15 (tlt (show ((1 : Int32) < (3 : Int32)) from by decide)).2.1 ?_
      refine q_aloadN X20 hx hby d9_18 rfl rfl ?_
      refine q_iloadN X20 hx hby d9_19 rfl ?_
      refine k_V X20 hx hby hZ hown (wh hw 61 rfl) (wh hw 62 rfl) (wh hw 64 rfl) (wh hw 63 rfl) (W := 0) (own_ca3_1 l Z a0 hw [] xa xt c0 c1 c2 h0 n0 O0 gz gfm gwC gwM G P0) (wh hw 65 rfl) (wh hw 6 rfl) e20 P0.1  hml (argsL := [.int 1]) (rest := []) own_pd_19 d9_20 (fun _ T22 L22 X22 hQ22 => ?_)
      obtain ⟨Nc22, e22, rfl⟩ := hQ22
      have N22 := Fr.app N20 Nc22
      refine q_istore X22 hx hby d9_23 (l' := #[vR xa, vR xw, vI 3, vI 1, vI c1, uS]) rfl ?_
      refine q_iload X22 hx hby d9_25 rfl ?_
      refine q_ifYes (pc := 27) X22 hx hby d9_27 (pc' := 44) ((if0 _ _).trans (feq (show ¬ (c1 = (0 : Int32)) from (own_ne0 (by have := own_suF hc21; omega)))).2) (by decide) (by decide) ?_
      refine q_iload X22 hx hby d9_44 rfl ?_
      refine k_S X22 hx hby hZ hown (wh hw 83 rfl) (wh hw 84 rfl) (W := 0) (own_suC l Z a0 hw [] c1 h0 n0 O0) (wh hw 86 rfl) (wh hw 85 rfl) e22  hml (argsL := [.int c1]) (rest := []) own_pd_20 d9_46 (fun _ T23 L23 X23 hQ23 => ?_)
      obtain ⟨Nc23, e23, rfl⟩ := hQ23
      have N23 := Fr.app N22 Nc23
      by_cases hc24 : (own_su c1) = (0 : Int32)
      · refine q_ifYes (pc := 49) X23 hx hby d9_49 (pc' := 109) ((if0 _ _).trans (teq hc24).1) (by decide) (by decide) ?_
        refine gg (fun t k => XS.iinc X23.here hx rfl (hb hby d9_109) rfl (l' := #[vR xa, vR xw, vI 3, vI ((1 : Int32) + (1 : Int32)), vI c1, uS]) rfl k) ?_
        show own_Goes p e below (T23.setTop (mkF m 112 #[vR xa, vR xw, vI 3, vI ((1 : Int32) + (1 : Int32)), vI c1, uS] [])) _
        rw [show ((1 : Int32) + (1 : Int32)) = (2 : Int32) from by decide]
        refine q_goto (pc := 112) X23 hx hby d9_112 (pc' := 13) (by decide) (by decide) ?_
        refine q_iloadN X23 hx hby d9_13 rfl ?_
        refine q_iloadN X23 hx hby d9_14 rfl ?_
        refine q_icmpNo X23 hx hby d9_15 (tlt (show ((2 : Int32) < (3 : Int32)) from by decide)).2.1 ?_
        refine q_aloadN X23 hx hby d9_18 rfl rfl ?_
        refine q_iloadN X23 hx hby d9_19 rfl ?_
        refine k_V X23 hx hby hZ hown (wh hw 61 rfl) (wh hw 62 rfl) (wh hw 64 rfl) (wh hw 63 rfl) (W := 0) (own_ca3_2 l Z a0 hw [] xa xt c0 c1 c2 h0 n0 O0 gz gfm gwC gwM G P0) (wh hw 65 rfl) (wh hw 6 rfl) e23 P0.1  hml (argsL := [.int 2]) (rest := []) own_pd_19 d9_20 (fun _ T25 L25 X25 hQ25 => ?_)
        obtain ⟨Nc25, e25, rfl⟩ := hQ25
        have N25 := Fr.app N23 Nc25
        refine q_istore X25 hx hby d9_23 (l' := #[vR xa, vR xw, vI 3, vI 2, vI c2, uS]) rfl ?_
        refine q_iload X25 hx hby d9_25 rfl ?_
        refine q_ifYes (pc := 27) X25 hx hby d9_27 (pc' := 44) ((if0 _ _).trans (feq (show ¬ (c2 = (0 : Int32)) from (own_ne0 (by have := own_suF hc21; have := own_suF hc24; omega)))).2) (by decide) (by decide) ?_
        refine q_iload X25 hx hby d9_44 rfl ?_
        refine k_S X25 hx hby hZ hown (wh hw 83 rfl) (wh hw 84 rfl) (W := 0) (own_suC l Z a0 hw [] c2 h0 n0 O0) (wh hw 86 rfl) (wh hw 85 rfl) e25  hml (argsL := [.int c2]) (rest := []) own_pd_20 d9_46 (fun _ T26 L26 X26 hQ26 => ?_)
        obtain ⟨Nc26, e26, rfl⟩ := hQ26
        have N26 := Fr.app N25 Nc26
        refine q_ifYes (pc := 49) X26 hx hby d9_49 (pc' := 109) ((if0 _ _).trans (teq (show ((own_su c2) = (0 : Int32)) from (own_suZ (by have := own_suF hc21; have := own_suF hc24; omega)))).1) (by decide) (by decide) ?_
        refine gg (fun t k => XS.iinc X26.here hx rfl (hb hby d9_109) rfl (l' := #[vR xa, vR xw, vI 3, vI ((2 : Int32) + (1 : Int32)), vI c2, uS]) rfl k) ?_
        show own_Goes p e below (T26.setTop (mkF m 112 #[vR xa, vR xw, vI 3, vI ((2 : Int32) + (1 : Int32)), vI c2, uS] [])) _
        rw [show ((2 : Int32) + (1 : Int32)) = (3 : Int32) from by decide]
        refine q_goto (pc := 112) X26 hx hby d9_112 (pc' := 13) (by decide) (by decide) ?_
        refine q_iloadN X26 hx hby d9_13 rfl ?_
        refine q_iloadN X26 hx hby d9_14 rfl ?_
        refine q_icmpYes (pc := 15) X26 hx hby d9_15 (pc' := 115) (flt (show ¬ ((3 : Int32) < (3 : Int32)) from by decide)).2.1 (by decide) (by decide) ?_
        refine q_aloadN X26 hx hby d9_115 rfl rfl ?_
        refine r_R X26 hx hby hret hlk d9_116 e26 ?_
        exact ⟨N26, rfl, rfl⟩
      · refine q_ifNo X23 hx hby d9_49 ((if0 _ _).trans (feq hc24).1) ?_
        refine q_iload X23 hx hby d9_52 rfl ?_
        refine k_S X23 hx hby hZ hown (wh hw 182 rfl) (wh hw 183 rfl) (W := 0) (own_hsC l Z a0 hw [] c1 h0 n0 O0) (wh hw 184 rfl) (wh hw 85 rfl) e23  hml (argsL := [.int c1]) (rest := []) own_pd_20 d9_54 (fun _ T27 L27 X27 hQ27 => ?_)
        obtain ⟨Nc27, e27, rfl⟩ := hQ27
        have N27 := Fr.app N23 Nc27
        refine q_ifNo X27 hx hby d9_57 ((if0 _ _).trans (feq (show ¬ ((own_hs c1) = (0 : Int32)) from (own_hsN (by have := own_suF hc21; have := own_suT hc24; omega)))).1) ?_
        refine q_iloadN X27 hx hby d9_60 rfl ?_
        refine q_iconst X27 hx hby d9_61 ?_
        refine q_iadd X27 hx hby d9_62 ?_
        show own_Goes p e below (T27.setTop (mkF m 63 #[vR xa, vR xw, vI 3, vI 1, vI c1, uS] [(.int ((1 : Int32) + (1 : Int32)))])) _
        rw [show ((1 : Int32) + (1 : Int32)) = (2 : Int32) from by decide]
        refine q_iloadN X27 hx hby d9_63 rfl ?_
        refine q_icmpNo X27 hx hby d9_64 (tlt (show ((2 : Int32) < (3 : Int32)) from by decide)).2.1 ?_
        refine q_aloadN X27 hx hby d9_67 rfl rfl ?_
        refine q_iloadN X27 hx hby d9_68 rfl ?_
        refine q_iconst X27 hx hby d9_69 ?_
        refine q_iadd X27 hx hby d9_70 ?_
        show own_Goes p e below (T27.setTop (mkF m 71 #[vR xa, vR xw, vI 3, vI 1, vI c1, uS] [(.int ((1 : Int32) + (1 : Int32))), .ref xa])) _
        rw [show ((1 : Int32) + (1 : Int32)) = (2 : Int32) from by decide]
        refine k_V X27 hx hby hZ hown (wh hw 61 rfl) (wh hw 62 rfl) (wh hw 64 rfl) (wh hw 63 rfl) (W := 0) (own_ca3_2 l Z a0 hw [] xa xt c0 c1 c2 h0 n0 O0 gz gfm gwC gwM G P0) (wh hw 65 rfl) (wh hw 6 rfl) e27 P0.1  hml (argsL := [.int 2]) (rest := []) own_pd_19 d9_71 (fun _ T28 L28 X28 hQ28 => ?_)
        obtain ⟨Nc28, e28, rfl⟩ := hQ28
        have N28 := Fr.app N27 Nc28
        refine k_S X28 hx hby hZ hown (wh hw 186 rfl) (wh hw 187 rfl) (W := 0) (own_lsC l Z a0 hw [] c2 h0 n0 O0) (wh hw 188 rfl) (wh hw 85 rfl) e28  hml (argsL := [.int c2]) (rest := []) own_pd_20 d9_74 (fun _ T29 L29 X29 hQ29 => ?_)
        obtain ⟨Nc29, e29, rfl⟩ := hQ29
        have N29 := Fr.app N28 Nc29
        refine q_ifNo X29 hx hby d9_77 ((if0 _ _).trans (feq (show ¬ ((own_ls c2) = (0 : Int32)) from (own_lsN (by have := own_suF hc21; have := own_suT hc24; omega)))).1) ?_
        refine q_iconst X29 hx hby d9_80 ?_
        refine q_goto (pc := 81) X29 hx hby d9_81 (pc' := 85) (by decide) (by decide) ?_
        refine q_istore X29 hx hby d9_85 (l' := #[vR xa, vR xw, vI 3, vI 1, vI c1, vI 1]) rfl ?_
        refine q_iload X29 hx hby d9_87 rfl ?_
        refine q_ifYes (pc := 89) X29 hx hby d9_89 (pc' := 106) ((if0 _ _).trans (feq (show ¬ ((1 : Int32) = (0 : Int32)) from by decide)).2) (by decide) (by decide) ?_
        refine gg (fun t k => XS.iinc X29.here hx rfl (hb hby d9_106) rfl (l' := #[vR xa, vR xw, vI 3, vI ((1 : Int32) + (1 : Int32)), vI c1, vI 1]) rfl k) ?_
        show own_Goes p e below (T29.setTop (mkF m 109 #[vR xa, vR xw, vI 3, vI ((1 : Int32) + (1 : Int32)), vI c1, vI 1] [])) _
        rw [show ((1 : Int32) + (1 : Int32)) = (2 : Int32) from by decide]
        refine gg (fun t k => XS.iinc X29.here hx rfl (hb hby d9_109) rfl (l' := #[vR xa, vR xw, vI 3, vI ((2 : Int32) + (1 : Int32)), vI c1, vI 1]) rfl k) ?_
        show own_Goes p e below (T29.setTop (mkF m 112 #[vR xa, vR xw, vI 3, vI ((2 : Int32) + (1 : Int32)), vI c1, vI 1] [])) _
        rw [show ((2 : Int32) + (1 : Int32)) = (3 : Int32) from by decide]
        refine q_goto (pc := 112) X29 hx hby d9_112 (pc' := 13) (by decide) (by decide) ?_
        refine q_iloadN X29 hx hby d9_13 rfl ?_
        refine q_iloadN X29 hx hby d9_14 rfl ?_
        refine q_icmpYes (pc := 15) X29 hx hby d9_15 (pc' := 115) (flt (show ¬ ((3 : Int32) < (3 : Int32)) from by decide)).2.1 (by decide) (by decide) ?_
        refine q_aloadN X29 hx hby d9_115 rfl rfl ?_
        refine r_R X29 hx hby hret hlk d9_116 e29 ?_
        exact ⟨N29, rfl, rfl⟩
    · refine q_ifNo X20 hx hby d9_49 ((if0 _ _).trans (feq hc21).1) ?_
      refine q_iload X20 hx hby d9_52 rfl ?_
      refine k_S X20 hx hby hZ hown (wh hw 182 rfl) (wh hw 183 rfl) (W := 0) (own_hsC l Z a0 hw [] c0 h0 n0 O0) (wh hw 184 rfl) (wh hw 85 rfl) e20  hml (argsL := [.int c0]) (rest := []) own_pd_20 d9_54 (fun _ T30 L30 X30 hQ30 => ?_)
      obtain ⟨Nc30, e30, rfl⟩ := hQ30
      have N30 := Fr.app N20 Nc30
      refine q_ifNo X30 hx hby d9_57 ((if0 _ _).trans (feq (show ¬ ((own_hs c0) = (0 : Int32)) from (own_hsN (by have := own_suT hc21; omega)))).1) ?_
      refine q_iloadN X30 hx hby d9_60 rfl ?_
      refine q_iconst X30 hx hby d9_61 ?_
      refine q_iadd X30 hx hby d9_62 ?_
      show own_Goes p e below (T30.setTop (mkF m 63 #[vR xa, vR xw, vI 3, vI 0, vI c0, uS] [(.int ((0 : Int32) + (1 : Int32)))])) _
      rw [show ((0 : Int32) + (1 : Int32)) = (1 : Int32) from by decide]
      refine q_iloadN X30 hx hby d9_63 rfl ?_
      refine q_icmpNo X30 hx hby d9_64 (tlt (show ((1 : Int32) < (3 : Int32)) from by decide)).2.1 ?_
      refine q_aloadN X30 hx hby d9_67 rfl rfl ?_
      refine q_iloadN X30 hx hby d9_68 rfl ?_
      refine q_iconst X30 hx hby d9_69 ?_
      refine q_iadd X30 hx hby d9_70 ?_
      show own_Goes p e below (T30.setTop (mkF m 71 #[vR xa, vR xw, vI 3, vI 0, vI c0, uS] [(.int ((0 : Int32) + (1 : Int32))), .ref xa])) _
      rw [show ((0 : Int32) + (1 : Int32)) = (1 : Int32) from by decide]
      refine k_V X30 hx hby hZ hown (wh hw 61 rfl) (wh hw 62 rfl) (wh hw 64 rfl) (wh hw 63 rfl) (W := 0) (own_ca3_1 l Z a0 hw [] xa xt c0 c1 c2 h0 n0 O0 gz gfm gwC gwM G P0) (wh hw 65 rfl) (wh hw 6 rfl) e30 P0.1  hml (argsL := [.int 1]) (rest := []) own_pd_19 d9_71 (fun _ T31 L31 X31 hQ31 => ?_)
      obtain ⟨Nc31, e31, rfl⟩ := hQ31
      have N31 := Fr.app N30 Nc31
      refine k_S X31 hx hby hZ hown (wh hw 186 rfl) (wh hw 187 rfl) (W := 0) (own_lsC l Z a0 hw [] c1 h0 n0 O0) (wh hw 188 rfl) (wh hw 85 rfl) e31  hml (argsL := [.int c1]) (rest := []) own_pd_20 d9_74 (fun _ T32 L32 X32 hQ32 => ?_)
      obtain ⟨Nc32, e32, rfl⟩ := hQ32
      have N32 := Fr.app N31 Nc32
      refine q_ifNo X32 hx hby d9_77 ((if0 _ _).trans (feq (show ¬ ((own_ls c1) = (0 : Int32)) from (own_lsN (by have := own_suT hc21; omega)))).1) ?_
      refine q_iconst X32 hx hby d9_80 ?_
      refine q_goto (pc := 81) X32 hx hby d9_81 (pc' := 85) (by decide) (by decide) ?_
      refine q_istore X32 hx hby d9_85 (l' := #[vR xa, vR xw, vI 3, vI 0, vI c0, vI 1]) rfl ?_
      refine q_iload X32 hx hby d9_87 rfl ?_
      refine q_ifYes (pc := 89) X32 hx hby d9_89 (pc' := 106) ((if0 _ _).trans (feq (show ¬ ((1 : Int32) = (0 : Int32)) from by decide)).2) (by decide) (by decide) ?_
      refine gg (fun t k => XS.iinc X32.here hx rfl (hb hby d9_106) rfl (l' := #[vR xa, vR xw, vI 3, vI ((0 : Int32) + (1 : Int32)), vI c0, vI 1]) rfl k) ?_
      show own_Goes p e below (T32.setTop (mkF m 109 #[vR xa, vR xw, vI 3, vI ((0 : Int32) + (1 : Int32)), vI c0, vI 1] [])) _
      rw [show ((0 : Int32) + (1 : Int32)) = (1 : Int32) from by decide]
      refine gg (fun t k => XS.iinc X32.here hx rfl (hb hby d9_109) rfl (l' := #[vR xa, vR xw, vI 3, vI ((1 : Int32) + (1 : Int32)), vI c0, vI 1]) rfl k) ?_
      show own_Goes p e below (T32.setTop (mkF m 112 #[vR xa, vR xw, vI 3, vI ((1 : Int32) + (1 : Int32)), vI c0, vI 1] [])) _
      rw [show ((1 : Int32) + (1 : Int32)) = (2 : Int32) from by decide]
      refine q_goto (pc := 112) X32 hx hby d9_112 (pc' := 13) (by decide) (by decide) ?_
      refine q_iloadN X32 hx hby d9_13 rfl ?_
      refine q_iloadN X32 hx hby d9_14 rfl ?_
      refine q_icmpNo X32 hx hby d9_15 (tlt (show ((2 : Int32) < (3 : Int32)) from by decide)).2.1 ?_
      refine q_aloadN X32 hx hby d9_18 rfl rfl ?_
      refine q_iloadN X32 hx hby d9_19 rfl ?_
      refine k_V X32 hx hby hZ hown (wh hw 61 rfl) (wh hw 62 rfl) (wh hw 64 rfl) (wh hw 63 rfl) (W := 0) (own_ca3_2 l Z a0 hw [] xa xt c0 c1 c2 h0 n0 O0 gz gfm gwC gwM G P0) (wh hw 65 rfl) (wh hw 6 rfl) e32 P0.1  hml (argsL := [.int 2]) (rest := []) own_pd_19 d9_20 (fun _ T33 L33 X33 hQ33 => ?_)
      obtain ⟨Nc33, e33, rfl⟩ := hQ33
      have N33 := Fr.app N32 Nc33
      refine q_istore X33 hx hby d9_23 (l' := #[vR xa, vR xw, vI 3, vI 2, vI c2, vI 1]) rfl ?_
      refine q_iload X33 hx hby d9_25 rfl ?_
      refine q_ifYes (pc := 27) X33 hx hby d9_27 (pc' := 44) ((if0 _ _).trans (feq (show ¬ (c2 = (0 : Int32)) from (own_ne0 (by have := own_suT hc21; omega)))).2) (by decide) (by decide) ?_
      refine q_iload X33 hx hby d9_44 rfl ?_
      refine k_S X33 hx hby hZ hown (wh hw 83 rfl) (wh hw 84 rfl) (W := 0) (own_suC l Z a0 hw [] c2 h0 n0 O0) (wh hw 86 rfl) (wh hw 85 rfl) e33  hml (argsL := [.int c2]) (rest := []) own_pd_20 d9_46 (fun _ T34 L34 X34 hQ34 => ?_)
      obtain ⟨Nc34, e34, rfl⟩ := hQ34
      have N34 := Fr.app N33 Nc34
      refine q_ifYes (pc := 49) X34 hx hby d9_49 (pc' := 109) ((if0 _ _).trans (teq (show ((own_su c2) = (0 : Int32)) from (own_suZ (by have := own_suT hc21; omega)))).1) (by decide) (by decide) ?_
      refine gg (fun t k => XS.iinc X34.here hx rfl (hb hby d9_109) rfl (l' := #[vR xa, vR xw, vI 3, vI ((2 : Int32) + (1 : Int32)), vI c2, vI 1]) rfl k) ?_
      show own_Goes p e below (T34.setTop (mkF m 112 #[vR xa, vR xw, vI 3, vI ((2 : Int32) + (1 : Int32)), vI c2, vI 1] [])) _
      rw [show ((2 : Int32) + (1 : Int32)) = (3 : Int32) from by decide]
      refine q_goto (pc := 112) X34 hx hby d9_112 (pc' := 13) (by decide) (by decide) ?_
      refine q_iloadN X34 hx hby d9_13 rfl ?_
      refine q_iloadN X34 hx hby d9_14 rfl ?_
      refine q_icmpYes (pc := 15) X34 hx hby d9_15 (pc' := 115) (flt (show ¬ ((3 : Int32) < (3 : Int32)) from by decide)).2.1 (by decide) (by decide) ?_
      refine q_aloadN X34 hx hby d9_115 rfl rfl ?_
      refine r_R X34 hx hby hret hlk d9_116 e34 ?_
      exact ⟨N34, rfl, rfl⟩
theorem d19_0 : decode B19 0 = .ok (.aload_n 0, 1) := by decide +kernel
theorem d19_1 : decode B19 1 = .ok (.invokespecial 1, 3) := by decide +kernel
theorem d19_4 : decode B19 4 = .ok (.aload_n 0, 1) := by decide +kernel
theorem d19_5 : decode B19 5 = .ok (.aload_n 1, 1) := by decide +kernel
theorem d19_6 : decode B19 6 = .ok (.putfield 7, 3) := by decide +kernel
theorem d19_9 : decode B19 9 = .ok (.aload_n 0, 1) := by decide +kernel
theorem d19_10 : decode B19 10 = .ok (.aload_n 2, 1) := by decide +kernel
theorem d19_11 : decode B19 11 = .ok (.putfield 13, 3) := by decide +kernel
theorem d19_14 : decode B19 14 = .ok (.aload_n 0, 1) := by decide +kernel
theorem d19_15 : decode B19 15 = .ok (.aload_n 3, 1) := by decide +kernel
theorem d19_16 : decode B19 16 = .ok (.putfield 17, 3) := by decide +kernel
theorem d19_19 : decode B19 19 = .ok (.aload_n 0, 1) := by decide +kernel
theorem d19_20 : decode B19 20 = .ok (.aload 4, 2) := by decide +kernel
theorem d19_22 : decode B19 22 = .ok (.putfield 20, 3) := by decide +kernel
theorem d19_25 : decode B19 25 = .ok (.return_, 1) := by decide +kernel
theorem own_pn_com_example_circa_once_circaonce_model_Scope : plainName "com/example/circa_once/circaonce/model/Scope" = true := by first | (simp [plainName, overriddenIn]; done) | decide +kernel
theorem own_ef_own_scInit (m : MethodId) (xa : Addr) (xk : Addr) (x1 : Addr) (x2 : Addr) (x3 : Addr) : entryFrame m #[.ref xa, .ref xk, .ref x1, .ref x2, .ref x3] 5 = mkF m 0 #[vR xa, vR xk, vR x1, vR x2, vR x3] [] := by first | (simp [entryFrame, mkF, argsToLocals, Value.category]; done) | rfl
def Q_own_scInit (Z : State) (xa : Addr) (xk : Addr) (x1 : Addr) (x2 : Addr) (x3 : Addr) (h0 : Heap) (n0 : Nat) (v : Option Value) (h : Heap) (L : List Loc) : Prop := Fr n0 L ∧ Keep h0 h [xa] ∧ v = none ∧ Fld Z h xa "com/example/circa_once/circaonce/model/Scope" "kind" "Lcom/example/circa_once/circaonce/model/Scope$Kind;" (.ref xk) ∧ Fld Z h xa "com/example/circa_once/circaonce/model/Scope" "tenant" "Ljava/lang/String;" (.ref x1) ∧ Fld Z h xa "com/example/circa_once/circaonce/model/Scope" "caller" "Ljava/lang/String;" (.ref x2) ∧ Fld Z h xa "com/example/circa_once/circaonce/model/Scope" "operation" "Ljava/lang/String;" (.ref x3)
theorem own_scInit (l : Launch) (Z : State) (a0 : Array Value) (hw : ∀ d ∈ tables_1, d.before a0 Z = true) (ws : List Jvm.Cond) (xa : Addr) (xk : Addr) (x1 : Addr) (x2 : Addr) (x3 : Addr) (h0 : Heap) (n0 : Nat) (O0 : Old Z n0 h0) (P0 : Exa Z h0 xa "com/example/circa_once/circaonce/model/Scope") (P1 : n0 ≤ xa) (P2 : Fld Z h0 xa "com/example/circa_once/circaonce/model/Scope" "kind" "Lcom/example/circa_once/circaonce/model/Scope$Kind;" .null) (P3 : Fld Z h0 xa "com/example/circa_once/circaonce/model/Scope" "tenant" "Ljava/lang/String;" .null) (P4 : Fld Z h0 xa "com/example/circa_once/circaonce/model/Scope" "caller" "Ljava/lang/String;" .null) (P5 : Fld Z h0 xa "com/example/circa_once/circaonce/model/Scope" "operation" "Ljava/lang/String;" .null) : own_Met l Z (⟨"com/example/circa_once/circaonce/model/Scope", "<init>", "(Lcom/example/circa_once/circaonce/model/Scope$Kind;Ljava/lang/String;Ljava/lang/String;Ljava/lang/String;)V"⟩ : MethodName) prog_13_method_1_code 5 none ws ({ frames := 1, cells := 0, slots := 0, locals := 12 } : Room) #[.ref xa, .ref xk, .ref x1, .ref x2, .ref x3] h0 (Q_own_scInit Z xa xk x1 x2 x3 h0 n0) := by
  refine own_mk (plainFor_of_name own_pn_com_example_circa_once_circaonce_model_Scope) O0 ?_
  intro p e s m below meth c s₁ hx hby hml hZ hown hnm hlk hret X0 e0 N0 z0 z1
  have K0 : Keep h0 h0 [xa] := Keep.refl _ _
  refine own_cast (own_ef_own_scInit m xa xk x1 x2 x3) ?_
  show own_Goes p e below (s₁.setTop (mkF m 0 #[vR xa, vR xk, vR x1, vR x2, vR x3] [])) _
  have ltP0 : @LT.lt Nat _ xa h0.size := P0.lt
  refine q_aloadN X0 hx hby d19_0 rfl rfl ?_
  obtain ⟨T1, X1, e1, st1⟩ := initO X0 hx hZ hown (wh hw 97 rfl) (wh hw 16 rfl) (wh hw 17 rfl) e0 (g := (mkF m 1 #[vR xa, vR xk, vR x1, vR x2, vR x3] [.ref xa])) rfl (by rw [hml]; rfl) rfl (hb hby d19_1) (by decide) (W := 0) (by show 2 * 0 + _ ≤ _; exact Nat.le_of_eq rfl) (by decide)
  refine gg st1 ?_
  refine q_aloadN X1 hx hby d19_4 rfl rfl ?_
  refine q_aloadN X1 hx hby d19_5 rfl rfl ?_
  refine qP X1 hx hby hZ hown (host := "") (Or.inl (wh hw 98 rfl)) Via.refl e1 P2 P0 (Or.inr ⟨(wh hw 99 rfl), rfl, hnm⟩) (wh hw 90 rfl) (ty := (.object "com/example/circa_once/circaonce/model/Scope$Kind")) d19_6 (fun T2 h2 X2 e2 W2 => ?_)
  have O3 := O0.wr W2 (show n0 ≤ xa by omega)
  have sz4 : h2.size = h0.size := Wr.size W2
  have K5 := K0.wr W2 (Or.inl (List.mem_of_getElem? (i := 0) rfl))
  have N2 := Fr.snoc X2 N0 (show n0 ≤ xa by omega)
  have Fw2 := P2.same W2
  refine q_aloadN X2 hx hby d19_9 rfl rfl ?_
  refine q_aloadN X2 hx hby d19_10 rfl rfl ?_
  have f6 := (P3.other W2 (Or.inr (slot_ne (Or.inr (wh hw 101 rfl)) (Or.inr (wh hw 99 rfl)) (by decide) (t := (.object "java/lang/String")) (t' := (.object "com/example/circa_once/circaonce/model/Scope$Kind")) (by decide) (by decide))))
  have f7 := (P0.wr W2)
  refine qP X2 hx hby hZ hown (host := "") (Or.inl (wh hw 100 rfl)) Via.refl e2 f6 f7 (Or.inr ⟨(wh hw 101 rfl), rfl, hnm⟩) (wh hw 90 rfl) (ty := (.object "java/lang/String")) d19_11 (fun T8 h8 X8 e8 W8 => ?_)
  have O9 := O3.wr W8 (show n0 ≤ xa by omega)
  have sz10 : h8.size = h2.size := Wr.size W8
  have K11 := K5.wr W8 (Or.inl (List.mem_of_getElem? (i := 0) rfl))
  have N8 := Fr.snoc X8 N2 (show n0 ≤ xa by omega)
  have Fw8 := f6.same W8
  refine q_aloadN X8 hx hby d19_14 rfl rfl ?_
  refine q_aloadN X8 hx hby d19_15 rfl rfl ?_
  have f12 := ((P4.other W2 (Or.inr (slot_ne (Or.inr (wh hw 103 rfl)) (Or.inr (wh hw 99 rfl)) (by decide) (t := (.object "java/lang/String")) (t' := (.object "com/example/circa_once/circaonce/model/Scope$Kind")) (by decide) (by decide)))).other W8 (Or.inr (slot_ne (Or.inr (wh hw 103 rfl)) (Or.inr (wh hw 101 rfl)) (by decide) (t := (.object "java/lang/String")) (t' := (.object "java/lang/String")) (by decide) (by decide))))
  have f13 := (f7.wr W8)
  refine qP X8 hx hby hZ hown (host := "") (Or.inl (wh hw 102 rfl)) Via.refl e8 f12 f13 (Or.inr ⟨(wh hw 103 rfl), rfl, hnm⟩) (wh hw 90 rfl) (ty := (.object "java/lang/String")) d19_16 (fun T14 h14 X14 e14 W14 => ?_)
  have O15 := O9.wr W14 (show n0 ≤ xa by omega)
  have sz16 : h14.size = h8.size := Wr.size W14
  have K17 := K11.wr W14 (Or.inl (List.mem_of_getElem? (i := 0) rfl))
  have N14 := Fr.snoc X14 N8 (show n0 ≤ xa by omega)
  have Fw14 := f12.same W14
  refine q_aloadN X14 hx hby d19_19 rfl rfl ?_
  refine q_aload X14 hx hby d19_20 rfl rfl ?_
  have f18 := (((P5.other W2 (Or.inr (slot_ne (Or.inr (wh hw 105 rfl)) (Or.inr (wh hw 99 rfl)) (by decide) (t := (.object "java/lang/String")) (t' := (.object "com/example/circa_once/circaonce/model/Scope$Kind")) (by decide) (by decide)))).other W8 (Or.inr (slot_ne (Or.inr (wh hw 105 rfl)) (Or.inr (wh hw 101 rfl)) (by decide) (t := (.object "java/lang/String")) (t' := (.object "java/lang/String")) (by decide) (by decide)))).other W14 (Or.inr (slot_ne (Or.inr (wh hw 105 rfl)) (Or.inr (wh hw 103 rfl)) (by decide) (t := (.object "java/lang/String")) (t' := (.object "java/lang/String")) (by decide) (by decide))))
  have f19 := (f13.wr W14)
  refine qP X14 hx hby hZ hown (host := "") (Or.inl (wh hw 104 rfl)) Via.refl e14 f18 f19 (Or.inr ⟨(wh hw 105 rfl), rfl, hnm⟩) (wh hw 90 rfl) (ty := (.object "java/lang/String")) d19_22 (fun T20 h20 X20 e20 W20 => ?_)
  have O21 := O15.wr W20 (show n0 ≤ xa by omega)
  have sz22 : h20.size = h14.size := Wr.size W20
  have K23 := K17.wr W20 (Or.inl (List.mem_of_getElem? (i := 0) rfl))
  have N20 := Fr.snoc X20 N14 (show n0 ≤ xa by omega)
  have Fw20 := f18.same W20
  show own_Goes p e below (T20.setTop (mkF m 25 #[vR xa, vR xk, vR x1, vR x2, vR x3] [])) _
  refine r_V X20 hx hby hret hlk d19_25 e20 ?_
  have f24 := (((Fw2.other W8 (Or.inr (slot_ne (Or.inr (wh hw 99 rfl)) (Or.inr (wh hw 101 rfl)) (by decide) (t := (.object "com/example/circa_once/circaonce/model/Scope$Kind")) (t' := (.object "java/lang/String")) (by decide) (by decide)))).other W14 (Or.inr (slot_ne (Or.inr (wh hw 99 rfl)) (Or.inr (wh hw 103 rfl)) (by decide) (t := (.object "com/example/circa_once/circaonce/model/Scope$Kind")) (t' := (.object "java/lang/String")) (by decide) (by decide)))).other W20 (Or.inr (slot_ne (Or.inr (wh hw 99 rfl)) (Or.inr (wh hw 105 rfl)) (by decide) (t := (.object "com/example/circa_once/circaonce/model/Scope$Kind")) (t' := (.object "java/lang/String")) (by decide) (by decide))))
  have f25 := ((Fw8.other W14 (Or.inr (slot_ne (Or.inr (wh hw 101 rfl)) (Or.inr (wh hw 103 rfl)) (by decide) (t := (.object "java/lang/String")) (t' := (.object "java/lang/String")) (by decide) (by decide)))).other W20 (Or.inr (slot_ne (Or.inr (wh hw 101 rfl)) (Or.inr (wh hw 105 rfl)) (by decide) (t := (.object "java/lang/String")) (t' := (.object "java/lang/String")) (by decide) (by decide))))
  have f26 := (Fw14.other W20 (Or.inr (slot_ne (Or.inr (wh hw 103 rfl)) (Or.inr (wh hw 105 rfl)) (by decide) (t := (.object "java/lang/String")) (t' := (.object "java/lang/String")) (by decide) (by decide))))
  exact ⟨N20, K23, rfl, f24, f25, f26, Fw20⟩
theorem d8_0 : decode B8 0 = .ok (.aload_n 0, 1) := by decide +kernel
theorem d8_1 : decode B8 1 = .ok (.ldc 23, 2) := by decide +kernel
theorem d8_3 : decode B8 3 = .ok (.invokestatic 24, 3) := by decide +kernel
theorem own_pd_21 : parseMethodDescriptor "(Ljava/lang/String;Ljava/lang/String;)Ljava/lang/String;" = some ⟨[(.object "java/lang/String"), (.object "java/lang/String")], some (.object "java/lang/String")⟩ := by decide +kernel
abbrev own_m22 : MethodName := ⟨"com/example/circa_once/circaonce/model/StorableText", "require", "(Ljava/lang/String;Ljava/lang/String;)Ljava/lang/String;"⟩
theorem d8_6 : decode B8 6 = .ok (.pop, 1) := by decide +kernel
theorem d8_7 : decode B8 7 = .ok (.aload_n 1, 1) := by decide +kernel
theorem d8_8 : decode B8 8 = .ok (.ldc 30, 2) := by decide +kernel
theorem d8_10 : decode B8 10 = .ok (.invokestatic 24, 3) := by decide +kernel
theorem d8_13 : decode B8 13 = .ok (.pop, 1) := by decide +kernel
theorem d8_14 : decode B8 14 = .ok (.aload_n 2, 1) := by decide +kernel
theorem d8_15 : decode B8 15 = .ok (.ldc 31, 2) := by decide +kernel
theorem d8_17 : decode B8 17 = .ok (.invokestatic 24, 3) := by decide +kernel
theorem d8_20 : decode B8 20 = .ok (.pop, 1) := by decide +kernel
theorem d8_21 : decode B8 21 = .ok (.new 8, 3) := by decide +kernel
theorem d8_24 : decode B8 24 = .ok (.dup, 1) := by decide +kernel
theorem d8_25 : decode B8 25 = .ok (.getstatic 32, 3) := by decide +kernel
theorem d8_28 : decode B8 28 = .ok (.aload_n 0, 1) := by decide +kernel
theorem d8_29 : decode B8 29 = .ok (.aload_n 1, 1) := by decide +kernel
theorem d8_30 : decode B8 30 = .ok (.aload_n 2, 1) := by decide +kernel
theorem d8_31 : decode B8 31 = .ok (.invokespecial 37, 3) := by decide +kernel
theorem own_pd_23 : parseMethodDescriptor "(Lcom/example/circa_once/circaonce/model/Scope$Kind;Ljava/lang/String;Ljava/lang/String;Ljava/lang/String;)V" = some ⟨[(.object "com/example/circa_once/circaonce/model/Scope$Kind"), (.object "java/lang/String"), (.object "java/lang/String"), (.object "java/lang/String")], none⟩ := by decide +kernel
abbrev own_m24 : MethodName := ⟨"com/example/circa_once/circaonce/model/Scope", "<init>", "(Lcom/example/circa_once/circaonce/model/Scope$Kind;Ljava/lang/String;Ljava/lang/String;Ljava/lang/String;)V"⟩
theorem d8_34 : decode B8 34 = .ok (.areturn, 1) := by decide +kernel
theorem own_ef_own_of (m : MethodId) (x1 : Addr) (x2 : Addr) (x3 : Addr) : entryFrame m #[.ref x1, .ref x2, .ref x3] 3 = mkF m 0 #[vR x1, vR x2, vR x3] [] := by first | (simp [entryFrame, mkF, argsToLocals, Value.category]; done) | rfl
def Q_own_of (Z : State) (x1 : Addr) (tx1 : Addr) (csa1 : List Int32) (x2 : Addr) (tx2 : Addr) (csa2 : List Int32) (x3 : Addr) (tx3 : Addr) (csa3 : List Int32) (gz : Int32) (gfm : Value) (gwC : Addr) (gwM : Addr) (h0 : Heap) (n0 : Nat) (v : Option Value) (h : Heap) (L : List Loc) : Prop := Fr n0 L ∧ Keep h0 h [] ∧ ∃ (r : Addr), v = some (.ref r) ∧ Exa Z h r "com/example/circa_once/circaonce/model/Scope" ∧ Fld Z h r "com/example/circa_once/circaonce/model/Scope" "kind" "Lcom/example/circa_once/circaonce/model/Scope$Kind;" (.ref gwC) ∧ Fld Z h r "com/example/circa_once/circaonce/model/Scope" "tenant" "Ljava/lang/String;" (.ref x1) ∧ Fld Z h r "com/example/circa_once/circaonce/model/Scope" "caller" "Ljava/lang/String;" (.ref x2) ∧ Fld Z h r "com/example/circa_once/circaonce/model/Scope" "operation" "Ljava/lang/String;" (.ref x3) ∧ h0.size ≤ r
theorem own_of (l : Launch) (Z : State) (a0 : Array Value) (hw : ∀ d ∈ tables_1, d.before a0 Z = true) (ws : List Jvm.Cond) (x1 : Addr) (tx1 : Addr) (csa1 : List Int32) (x2 : Addr) (tx2 : Addr) (csa2 : List Int32) (x3 : Addr) (tx3 : Addr) (csa3 : List Int32) (h0 : Heap) (n0 : Nat) (O0 : Old Z n0 h0) (gz : Int32) (gfm : Value) (gwC : Addr) (gwM : Addr) (G : GG Z gz gfm gwC gwM) (P0 : own_Str Z h0 x1 tx1 csa1) (P1 : own_Ok csa1) (P2 : own_Str Z h0 x2 tx2 csa2) (P3 : own_Ok csa2) (P4 : own_Str Z h0 x3 tx3 csa3) (P5 : own_Ok csa3) :
    MetFree l (⟨"com/example/circa_once/circaonce/model/Scope", "of", "(Ljava/lang/String;Ljava/lang/String;Ljava/lang/String;)Lcom/example/circa_once/circaonce/model/Scope;"⟩ : MethodName) (head1 (Jvm.Cond.code (⟨"com/example/circa_once/circaonce/model/Scope", "of", "(Ljava/lang/String;Ljava/lang/String;Ljava/lang/String;)Lcom/example/circa_once/circaonce/model/Scope;"⟩ : MethodName) prog_13_method_2_code 3 (some (.object "com/example/circa_once/circaonce/model/Scope")) :: ws) ({ frames := 6, cells := 7, slots := 100, locals := 83 } : Room)) (fun as_ U_ => as_ = #[.ref x1, .ref x2, .ref x3] ∧ Z.Warmed39 U_.vm ∧ U_.heap = h0 ∧ CHv Z consts_1 U_.vm h0) (fun _ _ _ _ _ => True) (fun _ U_ o_ U2_ => ∃ v_ L_, o_ = .returned v_ ∧ Q_own_of Z x1 tx1 csa1 x2 tx2 csa2 x3 tx3 csa3 gz gfm gwC gwM h0 n0 v_ U2_.heap L_ ∧ CHr Z consts_1 U_.vm U_.heap U2_.vm U2_.heap ∧ ReturnedEndW U_ o_ U2_ L_ ({ frames := 6, cells := 7, slots := 100, locals := 83 } : Room).cells ({ frames := 6, cells := 7, slots := 100, locals := 83 } : Room).slots) := by
  refine MetFree.of_bodySF (plainFor_of_name own_pn_com_example_circa_once_circaonce_model_Scope) hisR ?_
  intro p e s m args below meth c s₁ Bd hml0 hP hK
  obtain ⟨rfl, hZ, hh, hC0⟩ := hP
  have hx := Bd.exec
  have hby := Bd.bytes
  have hml : c.maxLocals = 3 := hml0
  have hown : s.vm.findClass "com/example/circa_once/circaonce/model/Scope" = some m.cls := findClass_of_methodNamed Bd.named
  have hnm := (name_of_methodNamed Bd.named Bd.method).1
  have hlk : meth.locks = false := Bd.notSynchronized
  have hret := Bd.returns
  have X0 : Stand p l e ({ frames := 6, cells := 7, slots := 100, locals := 83 } : Room) s m #[.ref x1, .ref x2, .ref x3] below meth c s₁ [] 0 0 := Stand.of_body Bd
  have e0 : s₁.heap = h0 := by rw [← hh, Bd.state]; rfl
  have N0 := Fr.nil n0
  have z0 : Z.heap.size = n0 := O0.1
  have z1 : n0 ≤ h0.size := z0 ▸ O0.2.1
  have K0 : Keep h0 h0 [] := Keep.refl _ _
  have hS0 : s.Since s.vm 0 := (State.WarmedH.refl s).since 0
  have hk0 : 0 ≤ h0.size := Nat.zero_le _
  replace X0 : Stand p l e ({ frames := 6, cells := 7, slots := 100, locals := 83 } : Room) (s.setVm s.vm) m #[.ref x1, .ref x2, .ref x3] below meth c s₁ [] 0 0 := X0
  have CR0 := CHr.refl hC0
  show own_Goes p e below (s₁.setTop (entryFrame m #[.ref x1, .ref x2, .ref x3] 3)) (own_PostH Z consts_1 s (Q_own_of Z x1 tx1 csa1 x2 tx2 csa2 x3 tx3 csa3 gz gfm gwC gwM h0 n0) ({ frames := 6, cells := 7, slots := 100, locals := 83 } : Room).cells ({ frames := 6, cells := 7, slots := 100, locals := 83 } : Room).slots)
  refine own_cast (own_ef_own_of m x1 x2 x3) ?_
  show own_Goes p e below (s₁.setTop (mkF m 0 #[vR x1, vR x2, vR x3] [])) _
  obtain ⟨G0, G1, G2, G3, G4, G5, G6, G7, G8, G9, G10, G11⟩ := id G
  have ltG8 : @LT.lt Nat _ gwC Z.heap.size := G8.lt
  have ltG10 : @LT.lt Nat _ gwM Z.heap.size := G10.lt
  have ltP0 : @LT.lt Nat _ x1 h0.size := P0.1.lt
  have luP0 : @LT.lt Nat _ tx1 h0.size := P0.lt2
  have ltP2 : @LT.lt Nat _ x2 h0.size := P2.1.lt
  have luP2 : @LT.lt Nat _ tx2 h0.size := P2.lt2
  have ltP4 : @LT.lt Nat _ x3 h0.size := P4.1.lt
  have luP4 : @LT.lt Nat _ tx3 h0.size := P4.lt2
  refine q_aloadN X0 hx hby d8_0 rfl rfl ?_
  obtain ⟨a1, T1, h1, k1, bb1, kb1, X1, e1, E1, hS1, hk1, hZ1, hown1, Es1, Cs1, Vs1, As1, la1, lb1, cs1, -, ns1, st1⟩ := ldcCH (s := s) (vm0 := s.vm) X0 hx hZ hown (wh hw 41 rfl) (own_strs hw) e0 hS0 hk0 (own_EW hw) (List.mem_of_getElem? (i := 0) rfl) CR0.1 (vs := [.int 116, .int 101, .int 110, .int 97, .int 110, .int 116]) (z := (6 : Int32)) ⟨by decide, by first | rfl | decide⟩ (by decide) rfl (g := (mkF m 1 #[vR x1, vR x2, vR x3] [.ref x1])) rfl (hb hby d8_1) (n := 24) (by decide) (by decide) (by decide) (by decide)
  refine gg st1 ?_
  have O2 := O0.ext E1
  have sz3 : h0.size ≤ h1.size := E1.1
  have CR4 := CHr.trans CR0 cs1
  have K5 := K0.ext E1
  have f6 := (P0.ext E1)
  obtain ⟨_, _, ⟨T7, L7, k7, n7⟩, -, X7, ⟨Lc7, hQ7, l7, y7, z7⟩, st7⟩ := Jvm.LawKit.callS X1 hx (y := own_m22) hown1 (mvT hZ1 (wh hw 42 rfl)) (mvT hZ1 (wh hw 43 rfl)) (mvT hZ1 (wh hw 44 rfl)) (mvT hZ1 (wh hw 45 rfl)) (by decide) (backOf (W := 0) (own_rq l Z a0 hw [] x1 tx1 a1 csa1 h1 n0 O2 gz gfm gwC gwM G f6 (show own_Ok csa1 from P1)) hZ1 (wh hw 45 rfl) (wh hw 44 rfl) (by decide) (by decide)) (g := (mkF m 3 #[vR x1, vR x2, vR x3] [.ref a1, .ref x1])) rfl (by rw [hml]; rfl) (argsL := [.ref x1, .ref a1]) (rest := []) (lenOf own_pd_21 rfl) rfl (by show 2 * 0 + _ ≤ _; exact Nat.le_of_eq rfl) (hb hby d8_3) (fun _ _ => ⟨rfl, e1, (by decide : 2 + 0 ≤ _), (by decide : 28 + 0 ≤ _)⟩)
  dsimp only [Pt.U, Pt.locs, Pt.cells, Pt.slots] at X7 l7 y7 z7 st7 hQ7
  subst l7 y7 z7
  obtain ⟨Nc7, e7, rfl⟩ := hQ7
  have N7 := Fr.app N0 Nc7
  refine gg st7 ?_
  refine gg (fun t k => XS.pop X7.here hx rfl (hb hby d8_6) rfl rfl k) ?_
  refine q_aloadN X7 hx hby d8_7 rfl rfl ?_
  obtain ⟨a8, T8, h8, k8, bb8, kb8, X8, e8, E8, hS8, hk8, hZ8, hown8, Es8, Cs8, Vs8, As8, la8, lb8, cs8, -, ns8, st8⟩ := ldcCH (s := s) (vm0 := T1.vm) X7 hx hZ1 hown1 (wh hw 60 rfl) (own_strs hw) e7 hS1 hk1 (own_EW hw) (List.mem_of_getElem? (i := 1) rfl) CR4.1 (vs := [.int 99, .int 97, .int 108, .int 108, .int 101, .int 114]) (z := (6 : Int32)) ⟨by decide, by first | rfl | decide⟩ (by decide) rfl (g := (mkF m 8 #[vR x1, vR x2, vR x3] [.ref x2])) rfl (hb hby d8_8) (n := 24) (by decide) (by decide) (by decide) (by decide)
  refine gg st8 ?_
  have O9 := O2.ext E8
  have sz10 : h1.size ≤ h8.size := E8.1
  have CR11 := CHr.trans CR4 cs8
  have K12 := K5.ext E8
  have f13 := ((P2.ext E1).ext E8)
  obtain ⟨_, _, ⟨T14, L14, k14, n14⟩, -, X14, ⟨Lc14, hQ14, l14, y14, z14⟩, st14⟩ := Jvm.LawKit.callS X8 hx (y := own_m22) hown8 (mvT hZ8 (wh hw 42 rfl)) (mvT hZ8 (wh hw 43 rfl)) (mvT hZ8 (wh hw 44 rfl)) (mvT hZ8 (wh hw 45 rfl)) (by decide) (backOf (W := 0) (own_rq l Z a0 hw [] x2 tx2 a8 csa2 h8 n0 O9 gz gfm gwC gwM G f13 (show own_Ok csa2 from P3)) hZ8 (wh hw 45 rfl) (wh hw 44 rfl) (by decide) (by decide)) (g := (mkF m 10 #[vR x1, vR x2, vR x3] [.ref a8, .ref x2])) rfl (by rw [hml]; rfl) (argsL := [.ref x2, .ref a8]) (rest := []) (lenOf own_pd_21 rfl) rfl (by show 2 * 0 + _ ≤ _; exact Nat.le_of_eq rfl) (hb hby d8_10) (fun _ _ => ⟨rfl, e8, (by decide : 4 + 0 ≤ _), (by decide : 56 + 0 ≤ _)⟩)
  dsimp only [Pt.U, Pt.locs, Pt.cells, Pt.slots] at X14 l14 y14 z14 st14 hQ14
  subst l14 y14 z14
  obtain ⟨Nc14, e14, rfl⟩ := hQ14
  have N14 := Fr.app N7 Nc14
  refine gg st14 ?_
  refine gg (fun t k => XS.pop X14.here hx rfl (hb hby d8_13) rfl rfl k) ?_
  refine q_aloadN X14 hx hby d8_14 rfl rfl ?_
  obtain ⟨a15, T15, h15, k15, bb15, kb15, X15, e15, E15, hS15, hk15, hZ15, hown15, Es15, Cs15, Vs15, As15, la15, lb15, cs15, -, ns15, st15⟩ := ldcCH (s := s) (vm0 := T8.vm) X14 hx hZ8 hown8 (wh hw 88 rfl) (own_strs hw) e14 hS8 hk8 (own_EW hw) (List.mem_of_getElem? (i := 2) rfl) CR11.1 (vs := [.int 111, .int 112, .int 101, .int 114, .int 97, .int 116, .int 105, .int 111, .int 110]) (z := (9 : Int32)) ⟨by decide, by first | rfl | decide⟩ (by decide) rfl (g := (mkF m 15 #[vR x1, vR x2, vR x3] [.ref x3])) rfl (hb hby d8_15) (n := 36) (by decide) (by decide) (by decide) (by decide)
  refine gg st15 ?_
  have O16 := O9.ext E15
  have sz17 : h8.size ≤ h15.size := E15.1
  have CR18 := CHr.trans CR11 cs15
  have K19 := K12.ext E15
  have f20 := (((P4.ext E1).ext E8).ext E15)
  obtain ⟨_, _, ⟨T21, L21, k21, n21⟩, -, X21, ⟨Lc21, hQ21, l21, y21, z21⟩, st21⟩ := Jvm.LawKit.callS X15 hx (y := own_m22) hown15 (mvT hZ15 (wh hw 42 rfl)) (mvT hZ15 (wh hw 43 rfl)) (mvT hZ15 (wh hw 44 rfl)) (mvT hZ15 (wh hw 45 rfl)) (by decide) (backOf (W := 0) (own_rq l Z a0 hw [] x3 tx3 a15 csa3 h15 n0 O16 gz gfm gwC gwM G f20 (show own_Ok csa3 from P5)) hZ15 (wh hw 45 rfl) (wh hw 44 rfl) (by decide) (by decide)) (g := (mkF m 17 #[vR x1, vR x2, vR x3] [.ref a15, .ref x3])) rfl (by rw [hml]; rfl) (argsL := [.ref x3, .ref a15]) (rest := []) (lenOf own_pd_21 rfl) rfl (by show 2 * 0 + _ ≤ _; exact Nat.le_of_eq rfl) (hb hby d8_17) (fun _ _ => ⟨rfl, e15, (by decide : 6 + 0 ≤ _), (by decide : 96 + 0 ≤ _)⟩)
  dsimp only [Pt.U, Pt.locs, Pt.cells, Pt.slots] at X21 l21 y21 z21 st21 hQ21
  subst l21 y21 z21
  obtain ⟨Nc21, e21, rfl⟩ := hQ21
  have N21 := Fr.app N14 Nc21
  refine gg st21 ?_
  refine gg (fun t k => XS.pop X21.here hx rfl (hb hby d8_20) rfl rfl k) ?_
  obtain ⟨T22, h22, X22, e22, E22, A22, D22, -, st22⟩ := newO X21 hx hZ15 hown15 (wh hw 89 rfl) (wh hw 90 rfl) (wh hw 39 rfl) e21 (g := (mkF m 21 #[vR x1, vR x2, vR x3] [])) rfl (hb hby d8_21) (by decide) (by decide)
  obtain ⟨b22, g22⟩ : ∃ z, z = h15.size := ⟨_, rfl⟩
  rw [← g22] at A22 D22 st22
  refine gg st22 ?_
  have O23 := O16.ext E22
  have sz24 : h15.size ≤ h22.size := E22.1
  have cs25 := CHr.ext E22 CR18.1
  have CR26 := CHr.trans CR18 cs25
  have hk27 := Nat.le_trans hk15 E22.1
  have K28 := K19.ext E22
  have l22 : @LT.lt Nat _ b22 h22.size := A22.lt
  have F22_kind : Fld Z h22 b22 "com/example/circa_once/circaonce/model/Scope" "kind" "Lcom/example/circa_once/circaonce/model/Scope$Kind;" .null := D22 (Or.inr (wh hw 99 rfl)) (ty := (.object "com/example/circa_once/circaonce/model/Scope$Kind")) (by decide)
  have F22_tenant : Fld Z h22 b22 "com/example/circa_once/circaonce/model/Scope" "tenant" "Ljava/lang/String;" .null := D22 (Or.inr (wh hw 101 rfl)) (ty := (.object "java/lang/String")) (by decide)
  have F22_caller : Fld Z h22 b22 "com/example/circa_once/circaonce/model/Scope" "caller" "Ljava/lang/String;" .null := D22 (Or.inr (wh hw 103 rfl)) (ty := (.object "java/lang/String")) (by decide)
  have F22_operation : Fld Z h22 b22 "com/example/circa_once/circaonce/model/Scope" "operation" "Ljava/lang/String;" .null := D22 (Or.inr (wh hw 105 rfl)) (ty := (.object "java/lang/String")) (by decide)
  refine q_dup X22 hx hby d8_24 rfl ?_
  show own_Goes p e below (T22.setTop (mkF m 25 #[vR x1, vR x2, vR x3] [.ref b22, .ref b22])) _
  have q29 := G7.ext O23.2
  refine qS X22 hx hby hZ15 hown15 (host := "") (Or.inl (wh hw 91 rfl)) Via.refl e22 q29 d8_25 (fun T30 X30 e30 => ?_)
  refine q_aloadN X30 hx hby d8_28 rfl rfl ?_
  refine q_aloadN X30 hx hby d8_29 rfl rfl ?_
  refine q_aloadN X30 hx hby d8_30 rfl rfl ?_
  obtain ⟨_, _, ⟨T31, L31, k31, n31⟩, -, X31, ⟨Lc31, hQ31, l31, y31, z31⟩, st31⟩ := X30.specialBack hx (y := own_m24) rfl hown15 (mvT hZ15 (wh hw 94 rfl)) (mvT hZ15 (wh hw 95 rfl)) (mvT hZ15 (wh hw 96 rfl)) (by decide) (backOf (W := 1) (own_scInit l Z a0 hw [] b22 gwC x1 x2 x3 h22 n0 O23 A22 (show n0 ≤ b22 by first | assumption | omega | decide) F22_kind F22_tenant F22_caller F22_operation) hZ15 (wh hw 96 rfl) (wh hw 39 rfl) (by decide) (by decide)) (g := (mkF m 31 #[vR x1, vR x2, vR x3] [.ref x3, .ref x2, .ref x1, .ref gwC, .ref b22, .ref b22])) rfl (by rw [hml]; rfl) (Steps.refl _) (a := b22) (argsL := [.ref gwC, .ref x1, .ref x2, .ref x3]) (rest := [.ref b22]) (lenOf own_pd_23 rfl) rfl (by show 2 * 0 + _ ≤ _; exact Nat.le_of_eq rfl) (hb hby d8_31) (fun _ _ => ⟨rfl, e30, (by decide : 7 + 0 ≤ _), (by decide : 100 + 0 ≤ _)⟩)
  dsimp only [Pt.U, Pt.locs, Pt.cells, Pt.slots] at X31 l31 y31 z31 st31 hQ31
  subst l31 y31 z31
  obtain ⟨h31, e31⟩ : ∃ z, T31.heap = z := ⟨_, rfl⟩
  rw [e31] at hQ31
  obtain ⟨Nc31, Kc31, rfl, c31_0, c31_1, c31_2, c31_3⟩ := hQ31
  have N31 := Fr.app N21 Nc31
  have O32 := O23.keep Kc31 (allS (show n0 ≤ b22 by omega) all0)
  have sz33 : h22.size ≤ h31.size := Kc31.1
  have cs34 := CHr.keep Kc31 (sfS (Safe.exa hZ15.alike A22 (by decide) (by decide)) sf0) CR26.1
  have CR35 := CHr.trans CR26 cs34
  have hk36 := Nat.le_trans hk27 Kc31.1
  have K37 := Keep.trans K28 Kc31 (allS (Or.inr (show h0.size ≤ b22 by omega)) all0)
  refine own_goS st31 ?_
  refine own_endH X31 hS15 (show _ ≤ T31.heap.size by rw [e31]; exact hk36) e31 hh CR35 hZ15 (own_EW hw) (v := (some (.ref b22))) (fun h => by rw [hret] at h; cases h) hlk (by decide) (by decide) ?_ (fun fs hr => retOut X31 hx hret rfl (Or.inr (Or.inr (Or.inr (Or.inr ⟨rfl, rfl, rfl⟩)))) (hb hby d8_34) hr)
  show Q_own_of Z x1 tx1 csa1 x2 tx2 csa2 x3 tx3 csa3 gz gfm gwC gwM h0 n0 _ T31.heap _
  rw [e31]
  have f38 := (A22.keep Kc31)
  exact ⟨N31, K37, b22, rfl, f38, c31_0, c31_1, c31_2, c31_3, (show h0.size ≤ b22 by first | assumption | omega | decide)⟩
theorem d27_0 : decode B27 0 = .ok (.aload_n 0, 1) := by decide +kernel
theorem d27_1 : decode B27 1 = .ok (.ldc 40, 2) := by decide +kernel
theorem d27_3 : decode B27 3 = .ok (.invokestatic 24, 3) := by decide +kernel
theorem d27_6 : decode B27 6 = .ok (.pop, 1) := by decide +kernel
theorem d27_7 : decode B27 7 = .ok (.new 8, 3) := by decide +kernel
theorem d27_10 : decode B27 10 = .ok (.dup, 1) := by decide +kernel
theorem d27_11 : decode B27 11 = .ok (.getstatic 42, 3) := by decide +kernel
theorem d27_14 : decode B27 14 = .ok (.ldc 45, 2) := by decide +kernel
theorem d27_16 : decode B27 16 = .ok (.aload_n 0, 1) := by decide +kernel
theorem d27_17 : decode B27 17 = .ok (.ldc 45, 2) := by decide +kernel
theorem d27_19 : decode B27 19 = .ok (.invokespecial 37, 3) := by decide +kernel
theorem d27_22 : decode B27 22 = .ok (.areturn, 1) := by decide +kernel
theorem own_ef_own_ofC (m : MethodId) (x1 : Addr) : entryFrame m #[.ref x1] 1 = mkF m 0 #[vR x1] [] := by first | (simp [entryFrame, mkF, argsToLocals, Value.category]; done) | rfl
def Q_own_ofC (Z : State) (x1 : Addr) (tx1 : Addr) (csa1 : List Int32) (gz : Int32) (gfm : Value) (gwC : Addr) (gwM : Addr) (h0 : Heap) (n0 : Nat) (v : Option Value) (h : Heap) (L : List Loc) : Prop := Fr n0 L ∧ Keep h0 h [] ∧ ∃ (r : Addr), v = some (.ref r) ∧ Exa Z h r "com/example/circa_once/circaonce/model/Scope" ∧ Fld Z h r "com/example/circa_once/circaonce/model/Scope" "kind" "Lcom/example/circa_once/circaonce/model/Scope$Kind;" (.ref gwM) ∧ h0.size ≤ r
theorem own_ofC (l : Launch) (Z : State) (a0 : Array Value) (hw : ∀ d ∈ tables_1, d.before a0 Z = true) (ws : List Jvm.Cond) (x1 : Addr) (tx1 : Addr) (csa1 : List Int32) (h0 : Heap) (n0 : Nat) (O0 : Old Z n0 h0) (gz : Int32) (gfm : Value) (gwC : Addr) (gwM : Addr) (G : GG Z gz gfm gwC gwM) (P0 : own_Str Z h0 x1 tx1 csa1) (P1 : own_Ok csa1) :
    MetFree l (⟨"com/example/circa_once/circaonce/model/Scope", "ofConsumer", "(Ljava/lang/String;)Lcom/example/circa_once/circaonce/model/Scope;"⟩ : MethodName) (head1 (Jvm.Cond.code (⟨"com/example/circa_once/circaonce/model/Scope", "ofConsumer", "(Ljava/lang/String;)Lcom/example/circa_once/circaonce/model/Scope;"⟩ : MethodName) prog_13_method_3_code 1 (some (.object "com/example/circa_once/circaonce/model/Scope")) :: ws) ({ frames := 6, cells := 7, slots := 48, locals := 83 } : Room)) (fun as_ U_ => as_ = #[.ref x1] ∧ Z.Warmed39 U_.vm ∧ U_.heap = h0 ∧ CHv Z consts_1 U_.vm h0) (fun _ _ _ _ _ => True) (fun _ U_ o_ U2_ => ∃ v_ L_, o_ = .returned v_ ∧ Q_own_ofC Z x1 tx1 csa1 gz gfm gwC gwM h0 n0 v_ U2_.heap L_ ∧ CHr Z consts_1 U_.vm U_.heap U2_.vm U2_.heap ∧ ReturnedEndW U_ o_ U2_ L_ ({ frames := 6, cells := 7, slots := 48, locals := 83 } : Room).cells ({ frames := 6, cells := 7, slots := 48, locals := 83 } : Room).slots) := by
  refine MetFree.of_bodySF (plainFor_of_name own_pn_com_example_circa_once_circaonce_model_Scope) hisR ?_
  intro p e s m args below meth c s₁ Bd hml0 hP hK
  obtain ⟨rfl, hZ, hh, hC0⟩ := hP
  have hx := Bd.exec
  have hby := Bd.bytes
  have hml : c.maxLocals = 1 := hml0
  have hown : s.vm.findClass "com/example/circa_once/circaonce/model/Scope" = some m.cls := findClass_of_methodNamed Bd.named
  have hnm := (name_of_methodNamed Bd.named Bd.method).1
  have hlk : meth.locks = false := Bd.notSynchronized
  have hret := Bd.returns
  have X0 : Stand p l e ({ frames := 6, cells := 7, slots := 48, locals := 83 } : Room) s m #[.ref x1] below meth c s₁ [] 0 0 := Stand.of_body Bd
  have e0 : s₁.heap = h0 := by rw [← hh, Bd.state]; rfl
  have N0 := Fr.nil n0
  have z0 : Z.heap.size = n0 := O0.1
  have z1 : n0 ≤ h0.size := z0 ▸ O0.2.1
  have K0 : Keep h0 h0 [] := Keep.refl _ _
  have hS0 : s.Since s.vm 0 := (State.WarmedH.refl s).since 0
  have hk0 : 0 ≤ h0.size := Nat.zero_le _
  replace X0 : Stand p l e ({ frames := 6, cells := 7, slots := 48, locals := 83 } : Room) (s.setVm s.vm) m #[.ref x1] below meth c s₁ [] 0 0 := X0
  have CR0 := CHr.refl hC0
  show own_Goes p e below (s₁.setTop (entryFrame m #[.ref x1] 1)) (own_PostH Z consts_1 s (Q_own_ofC Z x1 tx1 csa1 gz gfm gwC gwM h0 n0) ({ frames := 6, cells := 7, slots := 48, locals := 83 } : Room).cells ({ frames := 6, cells := 7, slots := 48, locals := 83 } : Room).slots)
  refine own_cast (own_ef_own_ofC m x1) ?_
  show own_Goes p e below (s₁.setTop (mkF m 0 #[vR x1] [])) _
  obtain ⟨G0, G1, G2, G3, G4, G5, G6, G7, G8, G9, G10, G11⟩ := id G
  have ltG8 : @LT.lt Nat _ gwC Z.heap.size := G8.lt
  have ltG10 : @LT.lt Nat _ gwM Z.heap.size := G10.lt
  have ltP0 : @LT.lt Nat _ x1 h0.size := P0.1.lt
  have luP0 : @LT.lt Nat _ tx1 h0.size := P0.lt2
  refine q_aloadN X0 hx hby d27_0 rfl rfl ?_
  obtain ⟨a1, T1, h1, k1, bb1, kb1, X1, e1, E1, hS1, hk1, hZ1, hown1, Es1, Cs1, Vs1, As1, la1, lb1, cs1, -, ns1, st1⟩ := ldcCH (s := s) (vm0 := s.vm) X0 hx hZ hown (wh hw 146 rfl) (own_strs hw) e0 hS0 hk0 (own_EW hw) (List.mem_of_getElem? (i := 3) rfl) CR0.1 (vs := [.int 99, .int 111, .int 110, .int 115, .int 117, .int 109, .int 101, .int 114]) (z := (8 : Int32)) ⟨by decide, by first | rfl | decide⟩ (by decide) rfl (g := (mkF m 1 #[vR x1] [.ref x1])) rfl (hb hby d27_1) (n := 32) (by decide) (by decide) (by decide) (by decide)
  refine gg st1 ?_
  have O2 := O0.ext E1
  have sz3 : h0.size ≤ h1.size := E1.1
  have CR4 := CHr.trans CR0 cs1
  have K5 := K0.ext E1
  have f6 := (P0.ext E1)
  obtain ⟨_, _, ⟨T7, L7, k7, n7⟩, -, X7, ⟨Lc7, hQ7, l7, y7, z7⟩, st7⟩ := Jvm.LawKit.callS X1 hx (y := own_m22) hown1 (mvT hZ1 (wh hw 42 rfl)) (mvT hZ1 (wh hw 43 rfl)) (mvT hZ1 (wh hw 44 rfl)) (mvT hZ1 (wh hw 45 rfl)) (by decide) (backOf (W := 0) (own_rq l Z a0 hw [] x1 tx1 a1 csa1 h1 n0 O2 gz gfm gwC gwM G f6 (show own_Ok csa1 from P1)) hZ1 (wh hw 45 rfl) (wh hw 44 rfl) (by decide) (by decide)) (g := (mkF m 3 #[vR x1] [.ref a1, .ref x1])) rfl (by rw [hml]; rfl) (argsL := [.ref x1, .ref a1]) (rest := []) (lenOf own_pd_21 rfl) rfl (by show 2 * 0 + _ ≤ _; exact Nat.le_of_eq rfl) (hb hby d27_3) (fun _ _ => ⟨rfl, e1, (by decide : 2 + 0 ≤ _), (by decide : 36 + 0 ≤ _)⟩)
  dsimp only [Pt.U, Pt.locs, Pt.cells, Pt.slots] at X7 l7 y7 z7 st7 hQ7
  subst l7 y7 z7
  obtain ⟨Nc7, e7, rfl⟩ := hQ7
  have N7 := Fr.app N0 Nc7
  refine gg st7 ?_
  refine gg (fun t k => XS.pop X7.here hx rfl (hb hby d27_6) rfl rfl k) ?_
  obtain ⟨T8, h8, X8, e8, E8, A8, D8, -, st8⟩ := newO X7 hx hZ1 hown1 (wh hw 89 rfl) (wh hw 90 rfl) (wh hw 39 rfl) e7 (g := (mkF m 7 #[vR x1] [])) rfl (hb hby d27_7) (by decide) (by decide)
  obtain ⟨b8, g8⟩ : ∃ z, z = h1.size := ⟨_, rfl⟩
  rw [← g8] at A8 D8 st8
  refine gg st8 ?_
  have O9 := O2.ext E8
  have sz10 : h1.size ≤ h8.size := E8.1
  have cs11 := CHr.ext E8 CR4.1
  have CR12 := CHr.trans CR4 cs11
  have hk13 := Nat.le_trans hk1 E8.1
  have K14 := K5.ext E8
  have l8 : @LT.lt Nat _ b8 h8.size := A8.lt
  have F8_kind : Fld Z h8 b8 "com/example/circa_once/circaonce/model/Scope" "kind" "Lcom/example/circa_once/circaonce/model/Scope$Kind;" .null := D8 (Or.inr (wh hw 99 rfl)) (ty := (.object "com/example/circa_once/circaonce/model/Scope$Kind")) (by decide)
  have F8_tenant : Fld Z h8 b8 "com/example/circa_once/circaonce/model/Scope" "tenant" "Ljava/lang/String;" .null := D8 (Or.inr (wh hw 101 rfl)) (ty := (.object "java/lang/String")) (by decide)
  have F8_caller : Fld Z h8 b8 "com/example/circa_once/circaonce/model/Scope" "caller" "Ljava/lang/String;" .null := D8 (Or.inr (wh hw 103 rfl)) (ty := (.object "java/lang/String")) (by decide)
  have F8_operation : Fld Z h8 b8 "com/example/circa_once/circaonce/model/Scope" "operation" "Ljava/lang/String;" .null := D8 (Or.inr (wh hw 105 rfl)) (ty := (.object "java/lang/String")) (by decide)
  refine q_dup X8 hx hby d27_10 rfl ?_
  have q15 := G9.ext O9.2
  refine qS X8 hx hby hZ1 hown1 (host := "") (Or.inl (wh hw 147 rfl)) Via.refl e8 q15 d27_11 (fun T16 X16 e16 => ?_)
  obtain ⟨a17, T17, h17, k17, bb17, kb17, X17, e17, E17, hS17, hk17, hZ17, hown17, Es17, Cs17, Vs17, As17, la17, lb17, cs17, -, ns17, st17⟩ := ldcCH (s := s) (vm0 := T1.vm) X16 hx hZ1 hown1 (wh hw 149 rfl) (own_strs hw) e16 hS1 hk13 (own_EW hw) (List.mem_of_getElem? (i := 4) rfl) CR12.1 (vs := []) (z := (0 : Int32)) ⟨by decide, by first | rfl | decide⟩ (by decide) rfl (g := (mkF m 14 #[vR x1] [.ref gwM, .ref b8, .ref b8])) rfl (hb hby d27_14) (n := 0) (by decide) (by decide) (by decide) (by decide)
  refine gg st17 ?_
  have O18 := O9.ext E17
  have sz19 : h8.size ≤ h17.size := E17.1
  have CR20 := CHr.trans CR12 cs17
  have K21 := K14.ext E17
  refine q_aloadN X17 hx hby d27_16 rfl rfl ?_
  obtain ⟨a22, T22, h22, k22, bb22, kb22, X22, e22, E22, hS22, hk22, hZ22, hown22, Es22, Cs22, Vs22, As22, la22, lb22, cs22, -, ns22, st22⟩ := ldcCH (s := s) (vm0 := T17.vm) X17 hx hZ17 hown17 (wh hw 149 rfl) (own_strs hw) e17 hS17 hk17 (own_EW hw) (List.mem_of_getElem? (i := 4) rfl) CR20.1 (vs := []) (z := (0 : Int32)) ⟨by decide, by first | rfl | decide⟩ (by decide) rfl (g := (mkF m 17 #[vR x1] [.ref x1, .ref a17, .ref gwM, .ref b8, .ref b8])) rfl (hb hby d27_17) (n := 0) (by decide) (by decide) (by decide) (by decide)
  refine gg st22 ?_
  have O23 := O18.ext E22
  have sz24 : h17.size ≤ h22.size := E22.1
  have CR25 := CHr.trans CR20 cs22
  have K26 := K21.ext E22
  have f27 := ((A8.ext E17).ext E22)
  have f28 := ((F8_kind.ext E17).ext E22)
  have f29 := ((F8_tenant.ext E17).ext E22)
  have f30 := ((F8_caller.ext E17).ext E22)
  have f31 := ((F8_operation.ext E17).ext E22)
  obtain ⟨_, _, ⟨T32, L32, k32, n32⟩, -, X32, ⟨Lc32, hQ32, l32, y32, z32⟩, st32⟩ := X22.specialBack hx (y := own_m24) rfl hown22 (mvT hZ22 (wh hw 94 rfl)) (mvT hZ22 (wh hw 95 rfl)) (mvT hZ22 (wh hw 96 rfl)) (by decide) (backOf (W := 1) (own_scInit l Z a0 hw [] b8 gwM a17 x1 a22 h22 n0 O23 f27 (show n0 ≤ b8 by first | assumption | omega | decide) f28 f29 f30 f31) hZ22 (wh hw 96 rfl) (wh hw 39 rfl) (by decide) (by decide)) (g := (mkF m 19 #[vR x1] [.ref a22, .ref x1, .ref a17, .ref gwM, .ref b8, .ref b8])) rfl (by rw [hml]; rfl) (Steps.refl _) (a := b8) (argsL := [.ref gwM, .ref a17, .ref x1, .ref a22]) (rest := [.ref b8]) (lenOf own_pd_23 rfl) rfl (by show 2 * 0 + _ ≤ _; exact Nat.le_of_eq rfl) (hb hby d27_19) (fun _ _ => ⟨rfl, e22, (by decide : 7 + 0 ≤ _), (by decide : 48 + 0 ≤ _)⟩)
  dsimp only [Pt.U, Pt.locs, Pt.cells, Pt.slots] at X32 l32 y32 z32 st32 hQ32
  subst l32 y32 z32
  obtain ⟨h32, e32⟩ : ∃ z, T32.heap = z := ⟨_, rfl⟩
  rw [e32] at hQ32
  obtain ⟨Nc32, Kc32, rfl, c32_0, c32_1, c32_2, c32_3⟩ := hQ32
  have N32 := Fr.app N7 Nc32
  have O33 := O23.keep Kc32 (allS (show n0 ≤ b8 by omega) all0)
  have sz34 : h22.size ≤ h32.size := Kc32.1
  have cs35 := CHr.keep Kc32 (sfS (Safe.exa hZ22.alike f27 (by decide) (by decide)) sf0) CR25.1
  have CR36 := CHr.trans CR25 cs35
  have hk37 := Nat.le_trans hk22 Kc32.1
  have K38 := Keep.trans K26 Kc32 (allS (Or.inr (show h0.size ≤ b8 by omega)) all0)
  refine own_goS st32 ?_
  refine own_endH X32 hS22 (show _ ≤ T32.heap.size by rw [e32]; exact hk37) e32 hh CR36 hZ22 (own_EW hw) (v := (some (.ref b8))) (fun h => by rw [hret] at h; cases h) hlk (by decide) (by decide) ?_ (fun fs hr => retOut X32 hx hret rfl (Or.inr (Or.inr (Or.inr (Or.inr ⟨rfl, rfl, rfl⟩)))) (hb hby d27_22) hr)
  show Q_own_ofC Z x1 tx1 csa1 gz gfm gwC gwM h0 n0 _ T32.heap _
  rw [e32]
  have f39 := (f27.keep Kc32)
  exact ⟨N32, K38, b8, rfl, f39, c32_0, (show h0.size ≤ b8 by first | assumption | omega | decide)⟩
theorem d20_0 : decode B20 0 = .ok (.aload_n 0, 1) := by decide +kernel
theorem d20_1 : decode B20 1 = .ok (.getfield 7, 3) := by decide +kernel
theorem d20_4 : decode B20 4 = .ok (.areturn, 1) := by decide +kernel
theorem own_ef_own_kind (m : MethodId) (xa : Addr) : entryFrame m #[.ref xa] 1 = mkF m 0 #[vR xa] [] := by first | (simp [entryFrame, mkF, argsToLocals, Value.category]; done) | rfl
def Q_own_kind (Z : State) (xa : Addr) (xv : Addr) (h0 : Heap) (n0 : Nat) (v : Option Value) (h : Heap) (L : List Loc) : Prop := Fr n0 L ∧ h = h0 ∧ v = some (.ref xv)
theorem own_kind (l : Launch) (Z : State) (a0 : Array Value) (hw : ∀ d ∈ tables_1, d.before a0 Z = true) (ws : List Jvm.Cond) (xa : Addr) (xv : Addr) (h0 : Heap) (n0 : Nat) (O0 : Old Z n0 h0) (P0 : Fld Z h0 xa "com/example/circa_once/circaonce/model/Scope" "kind" "Lcom/example/circa_once/circaonce/model/Scope$Kind;" (.ref xv)) : own_Met l Z (⟨"com/example/circa_once/circaonce/model/Scope", "kind", "()Lcom/example/circa_once/circaonce/model/Scope$Kind;"⟩ : MethodName) prog_13_method_4_code 1 (some (.object "com/example/circa_once/circaonce/model/Scope$Kind")) ws ({ frames := 0, cells := 0, slots := 0, locals := 0 } : Room) #[.ref xa] h0 (Q_own_kind Z xa xv h0 n0) := by
  refine own_mk (plainFor_of_name own_pn_com_example_circa_once_circaonce_model_Scope) O0 ?_
  intro p e s m below meth c s₁ hx hby hml hZ hown hnm hlk hret X0 e0 N0 z0 z1
  refine own_cast (own_ef_own_kind m xa) ?_
  show own_Goes p e below (s₁.setTop (mkF m 0 #[vR xa] [])) _
  refine q_aloadN X0 hx hby d20_0 rfl rfl ?_
  refine qG X0 hx hby hZ hown (wh hw 98 rfl) e0 P0 d20_1 (fun T1 X1 e1 => ?_)
  refine r_R X1 hx hby hret hlk d20_4 e1 ?_
  exact ⟨N0, rfl, rfl⟩
theorem d21_0 : decode B21 0 = .ok (.aload_n 0, 1) := by decide +kernel
theorem d21_1 : decode B21 1 = .ok (.getfield 13, 3) := by decide +kernel
theorem d21_4 : decode B21 4 = .ok (.areturn, 1) := by decide +kernel
theorem own_ef_own_tenant (m : MethodId) (xa : Addr) : entryFrame m #[.ref xa] 1 = mkF m 0 #[vR xa] [] := by first | (simp [entryFrame, mkF, argsToLocals, Value.category]; done) | rfl
def Q_own_tenant (Z : State) (xa : Addr) (xv : Addr) (h0 : Heap) (n0 : Nat) (v : Option Value) (h : Heap) (L : List Loc) : Prop := Fr n0 L ∧ h = h0 ∧ v = some (.ref xv)
theorem own_tenant (l : Launch) (Z : State) (a0 : Array Value) (hw : ∀ d ∈ tables_1, d.before a0 Z = true) (ws : List Jvm.Cond) (xa : Addr) (xv : Addr) (h0 : Heap) (n0 : Nat) (O0 : Old Z n0 h0) (P0 : Fld Z h0 xa "com/example/circa_once/circaonce/model/Scope" "tenant" "Ljava/lang/String;" (.ref xv)) : own_Met l Z (⟨"com/example/circa_once/circaonce/model/Scope", "tenant", "()Ljava/lang/String;"⟩ : MethodName) prog_13_method_5_code 1 (some (.object "java/lang/String")) ws ({ frames := 0, cells := 0, slots := 0, locals := 0 } : Room) #[.ref xa] h0 (Q_own_tenant Z xa xv h0 n0) := by
  refine own_mk (plainFor_of_name own_pn_com_example_circa_once_circaonce_model_Scope) O0 ?_
  intro p e s m below meth c s₁ hx hby hml hZ hown hnm hlk hret X0 e0 N0 z0 z1
  refine own_cast (own_ef_own_tenant m xa) ?_
  show own_Goes p e below (s₁.setTop (mkF m 0 #[vR xa] [])) _
  refine q_aloadN X0 hx hby d21_0 rfl rfl ?_
  refine qG X0 hx hby hZ hown (wh hw 100 rfl) e0 P0 d21_1 (fun T1 X1 e1 => ?_)
  refine r_R X1 hx hby hret hlk d21_4 e1 ?_
  exact ⟨N0, rfl, rfl⟩
theorem d23_0 : decode B23 0 = .ok (.aload_n 0, 1) := by decide +kernel
theorem d23_1 : decode B23 1 = .ok (.getfield 17, 3) := by decide +kernel
theorem d23_4 : decode B23 4 = .ok (.areturn, 1) := by decide +kernel
theorem own_ef_own_caller (m : MethodId) (xa : Addr) : entryFrame m #[.ref xa] 1 = mkF m 0 #[vR xa] [] := by first | (simp [entryFrame, mkF, argsToLocals, Value.category]; done) | rfl
def Q_own_caller (Z : State) (xa : Addr) (xv : Addr) (h0 : Heap) (n0 : Nat) (v : Option Value) (h : Heap) (L : List Loc) : Prop := Fr n0 L ∧ h = h0 ∧ v = some (.ref xv)
theorem own_caller (l : Launch) (Z : State) (a0 : Array Value) (hw : ∀ d ∈ tables_1, d.before a0 Z = true) (ws : List Jvm.Cond) (xa : Addr) (xv : Addr) (h0 : Heap) (n0 : Nat) (O0 : Old Z n0 h0) (P0 : Fld Z h0 xa "com/example/circa_once/circaonce/model/Scope" "caller" "Ljava/lang/String;" (.ref xv)) : own_Met l Z (⟨"com/example/circa_once/circaonce/model/Scope", "caller", "()Ljava/lang/String;"⟩ : MethodName) prog_13_method_6_code 1 (some (.object "java/lang/String")) ws ({ frames := 0, cells := 0, slots := 0, locals := 0 } : Room) #[.ref xa] h0 (Q_own_caller Z xa xv h0 n0) := by
  refine own_mk (plainFor_of_name own_pn_com_example_circa_once_circaonce_model_Scope) O0 ?_
  intro p e s m below meth c s₁ hx hby hml hZ hown hnm hlk hret X0 e0 N0 z0 z1
  refine own_cast (own_ef_own_caller m xa) ?_
  show own_Goes p e below (s₁.setTop (mkF m 0 #[vR xa] [])) _
  refine q_aloadN X0 hx hby d23_0 rfl rfl ?_
  refine qG X0 hx hby hZ hown (wh hw 102 rfl) e0 P0 d23_1 (fun T1 X1 e1 => ?_)
  refine r_R X1 hx hby hret hlk d23_4 e1 ?_
  exact ⟨N0, rfl, rfl⟩
theorem d24_0 : decode B24 0 = .ok (.aload_n 0, 1) := by decide +kernel
theorem d24_1 : decode B24 1 = .ok (.getfield 20, 3) := by decide +kernel
theorem d24_4 : decode B24 4 = .ok (.areturn, 1) := by decide +kernel
theorem own_ef_own_operation (m : MethodId) (xa : Addr) : entryFrame m #[.ref xa] 1 = mkF m 0 #[vR xa] [] := by first | (simp [entryFrame, mkF, argsToLocals, Value.category]; done) | rfl
def Q_own_operation (Z : State) (xa : Addr) (xv : Addr) (h0 : Heap) (n0 : Nat) (v : Option Value) (h : Heap) (L : List Loc) : Prop := Fr n0 L ∧ h = h0 ∧ v = some (.ref xv)
theorem own_operation (l : Launch) (Z : State) (a0 : Array Value) (hw : ∀ d ∈ tables_1, d.before a0 Z = true) (ws : List Jvm.Cond) (xa : Addr) (xv : Addr) (h0 : Heap) (n0 : Nat) (O0 : Old Z n0 h0) (P0 : Fld Z h0 xa "com/example/circa_once/circaonce/model/Scope" "operation" "Ljava/lang/String;" (.ref xv)) : own_Met l Z (⟨"com/example/circa_once/circaonce/model/Scope", "operation", "()Ljava/lang/String;"⟩ : MethodName) prog_13_method_7_code 1 (some (.object "java/lang/String")) ws ({ frames := 0, cells := 0, slots := 0, locals := 0 } : Room) #[.ref xa] h0 (Q_own_operation Z xa xv h0 n0) := by
  refine own_mk (plainFor_of_name own_pn_com_example_circa_once_circaonce_model_Scope) O0 ?_
  intro p e s m below meth c s₁ hx hby hml hZ hown hnm hlk hret X0 e0 N0 z0 z1
  refine own_cast (own_ef_own_operation m xa) ?_
  show own_Goes p e below (s₁.setTop (mkF m 0 #[vR xa] [])) _
  refine q_aloadN X0 hx hby d24_0 rfl rfl ?_
  refine qG X0 hx hby hZ hown (wh hw 104 rfl) e0 P0 d24_1 (fun T1 X1 e1 => ?_)
  refine r_R X1 hx hby hret hlk d24_4 e1 ?_
  exact ⟨N0, rfl, rfl⟩
theorem d22_0 : decode B22 0 = .ok (.aload_n 0, 1) := by decide +kernel
theorem d22_1 : decode B22 1 = .ok (.aload_n 1, 1) := by decide +kernel
theorem d22_2 : decode B22 2 = .ok (.if_acmp .ne 5, 3) := by decide +kernel
theorem d22_5 : decode B22 5 = .ok (.iconst 1, 1) := by decide +kernel
theorem d22_6 : decode B22 6 = .ok (.ireturn, 1) := by decide +kernel
theorem own_ef_own_eqSelf (m : MethodId) (xa : Addr) : entryFrame m #[.ref xa, .ref xa] 3 = mkF m 0 #[vR xa, vR xa, uS] [] := by first | (simp [entryFrame, mkF, argsToLocals, Value.category]; done) | rfl
def Q_own_eqSelf (Z : State) (xa : Addr) (h0 : Heap) (n0 : Nat) (v : Option Value) (h : Heap) (L : List Loc) : Prop := Fr n0 L ∧ h = h0 ∧ v = some (.int 1)
theorem own_eqSelf (l : Launch) (Z : State) (a0 : Array Value) (hw : ∀ d ∈ tables_1, d.before a0 Z = true) (ws : List Jvm.Cond) (xa : Addr) (h0 : Heap) (n0 : Nat) (O0 : Old Z n0 h0) : own_Met l Z (⟨"java/lang/String", "equals", "(Ljava/lang/Object;)Z"⟩ : MethodName) jdk_42_method_66_code 3 (some .boolean) ws ({ frames := 0, cells := 0, slots := 0, locals := 0 } : Room) #[.ref xa, .ref xa] h0 (Q_own_eqSelf Z xa h0 n0) := by
  refine own_mk (plainFor_of_name own_pn_java_lang_String) O0 ?_
  intro p e s m below meth c s₁ hx hby hml hZ hown hnm hlk hret X0 e0 N0 z0 z1
  refine own_cast (own_ef_own_eqSelf m xa) ?_
  show own_Goes p e below (s₁.setTop (mkF m 0 #[vR xa, vR xa, uS] [])) _
  refine q_aloadN X0 hx hby d22_0 rfl rfl ?_
  refine q_aloadN X0 hx hby d22_1 rfl rfl ?_
  refine gg (fun t k => Jvm.RoadKit.acmp (g := (mkF m 2 #[vR xa, vR xa, uS] [.ref xa, .ref xa])) X0 hx rfl rfl rfl (pc0 := 2) (pc' := 5) (same := true) rfl (hb hby d22_2) rfl (decide_eq_true rfl) (by decide) (by decide) k) ?_
  refine q_iconst X0 hx hby d22_5 ?_
  refine r_Z X0 hx hby hret hlk d22_6 e0 ?_
  exact ⟨N0, rfl, rfl⟩
theorem d26_0 : decode B26 0 = .ok (.aload_n 1, 1) := by decide +kernel
theorem d26_1 : decode B26 1 = .ok (.instanceof 8, 3) := by decide +kernel
theorem d26_4 : decode B26 4 = .ok (.ifCond .ne 5, 3) := by decide +kernel
theorem d26_9 : decode B26 9 = .ok (.aload_n 1, 1) := by decide +kernel
theorem d26_10 : decode B26 10 = .ok (.checkcast 8, 3) := by decide +kernel
theorem d26_13 : decode B26 13 = .ok (.astore_n 2, 1) := by decide +kernel
theorem d26_14 : decode B26 14 = .ok (.aload_n 0, 1) := by decide +kernel
theorem d26_15 : decode B26 15 = .ok (.getfield 7, 3) := by decide +kernel
theorem d26_18 : decode B26 18 = .ok (.aload_n 2, 1) := by decide +kernel
theorem d26_19 : decode B26 19 = .ok (.getfield 7, 3) := by decide +kernel
theorem d26_22 : decode B26 22 = .ok (.if_acmp .ne 49, 3) := by decide +kernel
theorem d26_71 : decode B26 71 = .ok (.iconst 0, 1) := by decide +kernel
theorem d26_72 : decode B26 72 = .ok (.ireturn, 1) := by decide +kernel
theorem own_ef_own_scNe (m : MethodId) (xa : Addr) (xb : Addr) : entryFrame m #[.ref xa, .ref xb] 3 = mkF m 0 #[vR xa, vR xb, uS] [] := by first | (simp [entryFrame, mkF, argsToLocals, Value.category]; done) | rfl
def Q_own_scNe (Z : State) (xa : Addr) (xb : Addr) (gz : Int32) (gfm : Value) (gwC : Addr) (gwM : Addr) (h0 : Heap) (n0 : Nat) (v : Option Value) (h : Heap) (L : List Loc) : Prop := Fr n0 L ∧ h = h0 ∧ v = some (.int 0)
theorem own_scNe (l : Launch) (Z : State) (a0 : Array Value) (hw : ∀ d ∈ tables_1, d.before a0 Z = true) (ws : List Jvm.Cond) (xa : Addr) (xb : Addr) (h0 : Heap) (n0 : Nat) (O0 : Old Z n0 h0) (gz : Int32) (gfm : Value) (gwC : Addr) (gwM : Addr) (G : GG Z gz gfm gwC gwM) (P0 : Fld Z h0 xa "com/example/circa_once/circaonce/model/Scope" "kind" "Lcom/example/circa_once/circaonce/model/Scope$Kind;" (.ref gwC)) (P1 : Exa Z h0 xb "com/example/circa_once/circaonce/model/Scope") (P2 : Fld Z h0 xb "com/example/circa_once/circaonce/model/Scope" "kind" "Lcom/example/circa_once/circaonce/model/Scope$Kind;" (.ref gwM)) : own_Met l Z (⟨"com/example/circa_once/circaonce/model/Scope", "equals", "(Ljava/lang/Object;)Z"⟩ : MethodName) prog_13_method_8_code 3 (some .boolean) ws ({ frames := 0, cells := 0, slots := 0, locals := 0 } : Room) #[.ref xa, .ref xb] h0 (Q_own_scNe Z xa xb gz gfm gwC gwM h0 n0) := by
  refine own_mk (plainFor_of_name own_pn_com_example_circa_once_circaonce_model_Scope) O0 ?_
  intro p e s m below meth c s₁ hx hby hml hZ hown hnm hlk hret X0 e0 N0 z0 z1
  refine own_cast (own_ef_own_scNe m xa xb) ?_
  show own_Goes p e below (s₁.setTop (mkF m 0 #[vR xa, vR xb, uS] [])) _
  obtain ⟨G0, G1, G2, G3, G4, G5, G6, G7, G8, G9, G10, G11⟩ := id G
  have ltG8 : @LT.lt Nat _ gwC Z.heap.size := G8.lt
  have ltG10 : @LT.lt Nat _ gwM Z.heap.size := G10.lt
  have ltP1 : @LT.lt Nat _ xb h0.size := P1.lt
  refine q_aloadN X0 hx hby d26_0 rfl rfl ?_
  obtain ⟨T1, X1, e1, st1⟩ := instY X0 hx hZ hown (wh hw 89 rfl) e0 (Ins.self P1) (g := (mkF m 1 #[vR xa, vR xb, uS] [.ref xb])) rfl rfl (hb hby d26_1)
  refine gg st1 ?_
  refine q_ifYes (pc := 4) X1 hx hby d26_4 (pc' := 9) ((if0 _ _).trans (feq (show ¬ ((1 : Int32) = (0 : Int32)) from by decide)).2) (by decide) (by decide) ?_
  refine q_aloadN X1 hx hby d26_9 rfl rfl ?_
  obtain ⟨T2, X2, e2, st2⟩ := castY X1 hx hZ hown (wh hw 89 rfl) e1 (Ins.self P1) (g := (mkF m 10 #[vR xa, vR xb, uS] [.ref xb])) rfl rfl (hb hby d26_10)
  refine gg st2 ?_
  refine q_astoreN X2 hx hby d26_13 rfl (l' := #[vR xa, vR xb, vR xb]) rfl ?_
  refine q_aloadN X2 hx hby d26_14 rfl rfl ?_
  refine qG X2 hx hby hZ hown (wh hw 98 rfl) e2 P0 d26_15 (fun T3 X3 e3 => ?_)
  refine q_aloadN X3 hx hby d26_18 rfl rfl ?_
  refine qG X3 hx hby hZ hown (wh hw 98 rfl) e3 P2 d26_19 (fun T4 X4 e4 => ?_)
  refine gg (fun t k => Jvm.RoadKit.acmp (g := (mkF m 22 #[vR xa, vR xb, vR xb] [.ref gwM, .ref gwC])) X4 hx rfl rfl rfl (pc0 := 22) (pc' := 71) (same := false) rfl (hb hby d26_22) rfl (decide_eq_false fun q => (show ¬ (gwC = gwM) from (fun q_ => G11 q_.symm)) (Value.ref.inj q)) (by decide) (by decide) k) ?_
  refine q_iconst X4 hx hby d26_71 ?_
  refine r_Z X4 hx hby hret hlk d26_72 e4 ?_
  exact ⟨N0, rfl, rfl⟩
theorem d26_25 : decode B26 25 = .ok (.aload_n 0, 1) := by decide +kernel
theorem d26_26 : decode B26 26 = .ok (.getfield 13, 3) := by decide +kernel
theorem d26_29 : decode B26 29 = .ok (.aload_n 2, 1) := by decide +kernel
theorem d26_30 : decode B26 30 = .ok (.getfield 13, 3) := by decide +kernel
theorem d26_33 : decode B26 33 = .ok (.invokevirtual 47, 3) := by decide +kernel
abbrev own_m25 : MethodName := ⟨"java/lang/String", "equals", "(Ljava/lang/Object;)Z"⟩
theorem own_pd_26 : parseMethodDescriptor "(Ljava/lang/Object;)Z" = some ⟨[(.object "java/lang/Object")], some .boolean⟩ := by decide +kernel
theorem d26_36 : decode B26 36 = .ok (.ifCond .eq 35, 3) := by decide +kernel
theorem d26_39 : decode B26 39 = .ok (.aload_n 0, 1) := by decide +kernel
theorem d26_40 : decode B26 40 = .ok (.getfield 17, 3) := by decide +kernel
theorem d26_43 : decode B26 43 = .ok (.aload_n 2, 1) := by decide +kernel
theorem d26_44 : decode B26 44 = .ok (.getfield 17, 3) := by decide +kernel
theorem d26_47 : decode B26 47 = .ok (.invokevirtual 47, 3) := by decide +kernel
theorem d26_50 : decode B26 50 = .ok (.ifCond .eq 21, 3) := by decide +kernel
theorem d26_53 : decode B26 53 = .ok (.aload_n 0, 1) := by decide +kernel
theorem d26_54 : decode B26 54 = .ok (.getfield 20, 3) := by decide +kernel
theorem d26_57 : decode B26 57 = .ok (.aload_n 2, 1) := by decide +kernel
theorem d26_58 : decode B26 58 = .ok (.getfield 20, 3) := by decide +kernel
theorem d26_61 : decode B26 61 = .ok (.invokevirtual 47, 3) := by decide +kernel
theorem d26_64 : decode B26 64 = .ok (.ifCond .eq 7, 3) := by decide +kernel
theorem d26_67 : decode B26 67 = .ok (.iconst 1, 1) := by decide +kernel
theorem d26_68 : decode B26 68 = .ok (.goto 4, 3) := by decide +kernel
theorem own_ef_own_scEq (m : MethodId) (xa : Addr) (xb : Addr) : entryFrame m #[.ref xa, .ref xb] 3 = mkF m 0 #[vR xa, vR xb, uS] [] := by first | (simp [entryFrame, mkF, argsToLocals, Value.category]; done) | rfl
def Q_own_scEq (Z : State) (xa : Addr) (xb : Addr) (x1 : Addr) (tx1 : Addr) (csa1 : List Int32) (x2 : Addr) (tx2 : Addr) (csa2 : List Int32) (x3 : Addr) (tx3 : Addr) (csa3 : List Int32) (y1 : Addr) (ty1 : Addr) (csb1 : List Int32) (y2 : Addr) (ty2 : Addr) (csb2 : List Int32) (y3 : Addr) (ty3 : Addr) (csb3 : List Int32) (gz : Int32) (gfm : Value) (gwC : Addr) (gwM : Addr) (h0 : Heap) (n0 : Nat) (v : Option Value) (h : Heap) (L : List Loc) : Prop := Fr n0 L ∧ h = h0 ∧ ∃ (r : Int32), v = some (.int r) ∧ ((r = (1 : Int32) ∧ csa1 = csb1 ∧ csa2 = csb2 ∧ csa3 = csb3) ∨ (r = (0 : Int32) ∧ ¬ (csa1 = csb1 ∧ csa2 = csb2 ∧ csa3 = csb3)))
theorem own_scEq (l : Launch) (Z : State) (a0 : Array Value) (hw : ∀ d ∈ tables_1, d.before a0 Z = true) (ws : List Jvm.Cond) (xa : Addr) (xb : Addr) (x1 : Addr) (tx1 : Addr) (csa1 : List Int32) (x2 : Addr) (tx2 : Addr) (csa2 : List Int32) (x3 : Addr) (tx3 : Addr) (csa3 : List Int32) (y1 : Addr) (ty1 : Addr) (csb1 : List Int32) (y2 : Addr) (ty2 : Addr) (csb2 : List Int32) (y3 : Addr) (ty3 : Addr) (csb3 : List Int32) (h0 : Heap) (n0 : Nat) (O0 : Old Z n0 h0) (gz : Int32) (gfm : Value) (gwC : Addr) (gwM : Addr) (G : GG Z gz gfm gwC gwM) (P0 : Fld Z h0 xa "com/example/circa_once/circaonce/model/Scope" "kind" "Lcom/example/circa_once/circaonce/model/Scope$Kind;" (.ref gwC)) (P1 : Fld Z h0 xa "com/example/circa_once/circaonce/model/Scope" "tenant" "Ljava/lang/String;" (.ref x1)) (P2 : Fld Z h0 xa "com/example/circa_once/circaonce/model/Scope" "caller" "Ljava/lang/String;" (.ref x2)) (P3 : Fld Z h0 xa "com/example/circa_once/circaonce/model/Scope" "operation" "Ljava/lang/String;" (.ref x3)) (P4 : Exa Z h0 x1 "java/lang/String") (P5 : Exa Z h0 x2 "java/lang/String") (P6 : Exa Z h0 x3 "java/lang/String") (P7 : Exa Z h0 xb "com/example/circa_once/circaonce/model/Scope") (P8 : Fld Z h0 xb "com/example/circa_once/circaonce/model/Scope" "kind" "Lcom/example/circa_once/circaonce/model/Scope$Kind;" (.ref gwC)) (P9 : Fld Z h0 xb "com/example/circa_once/circaonce/model/Scope" "tenant" "Ljava/lang/String;" (.ref y1)) (P10 : Fld Z h0 xb "com/example/circa_once/circaonce/model/Scope" "caller" "Ljava/lang/String;" (.ref y2)) (P11 : Fld Z h0 xb "com/example/circa_once/circaonce/model/Scope" "operation" "Ljava/lang/String;" (.ref y3)) (P12 : own_Str Z h0 x1 tx1 csa1) (P13 : own_Str Z h0 x2 tx2 csa2) (P14 : own_Str Z h0 x3 tx3 csa3) (P15 : own_Str Z h0 y1 ty1 csb1) (P16 : own_Str Z h0 y2 ty2 csb2) (P17 : own_Str Z h0 y3 ty3 csb3) : own_Met l Z (⟨"com/example/circa_once/circaonce/model/Scope", "equals", "(Ljava/lang/Object;)Z"⟩ : MethodName) prog_13_method_8_code 3 (some .boolean) ws ({ frames := 2, cells := 0, slots := 0, locals := 28 } : Room) #[.ref xa, .ref xb] h0 (Q_own_scEq Z xa xb x1 tx1 csa1 x2 tx2 csa2 x3 tx3 csa3 y1 ty1 csb1 y2 ty2 csb2 y3 ty3 csb3 gz gfm gwC gwM h0 n0) := by
  refine own_mk (plainFor_of_name own_pn_com_example_circa_once_circaonce_model_Scope) O0 ?_
  intro p e s m below meth c s₁ hx hby hml hZ hown hnm hlk hret X0 e0 N0 z0 z1
  refine own_cast (own_ef_own_scEq m xa xb) ?_
  show own_Goes p e below (s₁.setTop (mkF m 0 #[vR xa, vR xb, uS] [])) _
  obtain ⟨G0, G1, G2, G3, G4, G5, G6, G7, G8, G9, G10, G11⟩ := id G
  have ltG8 : @LT.lt Nat _ gwC Z.heap.size := G8.lt
  have ltG10 : @LT.lt Nat _ gwM Z.heap.size := G10.lt
  have ltP4 : @LT.lt Nat _ x1 h0.size := P4.lt
  have ltP5 : @LT.lt Nat _ x2 h0.size := P5.lt
  have ltP6 : @LT.lt Nat _ x3 h0.size := P6.lt
  have ltP7 : @LT.lt Nat _ xb h0.size := P7.lt
  have ltP12 : @LT.lt Nat _ x1 h0.size := P12.1.lt
  have luP12 : @LT.lt Nat _ tx1 h0.size := P12.lt2
  have ltP13 : @LT.lt Nat _ x2 h0.size := P13.1.lt
  have luP13 : @LT.lt Nat _ tx2 h0.size := P13.lt2
  have ltP14 : @LT.lt Nat _ x3 h0.size := P14.1.lt
  have luP14 : @LT.lt Nat _ tx3 h0.size := P14.lt2
  have ltP15 : @LT.lt Nat _ y1 h0.size := P15.1.lt
  have luP15 : @LT.lt Nat _ ty1 h0.size := P15.lt2
  have ltP16 : @LT.lt Nat _ y2 h0.size := P16.1.lt
  have luP16 : @LT.lt Nat _ ty2 h0.size := P16.lt2
  have ltP17 : @LT.lt Nat _ y3 h0.size := P17.1.lt
  have luP17 : @LT.lt Nat _ ty3 h0.size := P17.lt2
  refine q_aloadN X0 hx hby d26_0 rfl rfl ?_
  obtain ⟨T1, X1, e1, st1⟩ := instY X0 hx hZ hown (wh hw 89 rfl) e0 (Ins.self P7) (g := (mkF m 1 #[vR xa, vR xb, uS] [.ref xb])) rfl rfl (hb hby d26_1)
  refine gg st1 ?_
  refine q_ifYes (pc := 4) X1 hx hby d26_4 (pc' := 9) ((if0 _ _).trans (feq (show ¬ ((1 : Int32) = (0 : Int32)) from by decide)).2) (by decide) (by decide) ?_
  refine q_aloadN X1 hx hby d26_9 rfl rfl ?_
  obtain ⟨T2, X2, e2, st2⟩ := castY X1 hx hZ hown (wh hw 89 rfl) e1 (Ins.self P7) (g := (mkF m 10 #[vR xa, vR xb, uS] [.ref xb])) rfl rfl (hb hby d26_10)
  refine gg st2 ?_
  refine q_astoreN X2 hx hby d26_13 rfl (l' := #[vR xa, vR xb, vR xb]) rfl ?_
  refine q_aloadN X2 hx hby d26_14 rfl rfl ?_
  refine qG X2 hx hby hZ hown (wh hw 98 rfl) e2 P0 d26_15 (fun T3 X3 e3 => ?_)
  refine q_aloadN X3 hx hby d26_18 rfl rfl ?_
  refine qG X3 hx hby hZ hown (wh hw 98 rfl) e3 P8 d26_19 (fun T4 X4 e4 => ?_)
  refine gg (fun t k => Jvm.RoadKit.acmp (g := (mkF m 22 #[vR xa, vR xb, vR xb] [.ref gwC, .ref gwC])) X4 hx rfl rfl rfl (pc0 := 22) (pc' := 25) (same := true) rfl (hb hby d26_22) rfl (decide_eq_true rfl) (by decide) (by decide) k) ?_
  refine q_aloadN X4 hx hby d26_25 rfl rfl ?_
  refine qG X4 hx hby hZ hown (wh hw 100 rfl) e4 P1 d26_26 (fun T5 X5 e5 => ?_)
  refine q_aloadN X5 hx hby d26_29 rfl rfl ?_
  show own_Goes p e below (T5.setTop (mkF m 30 #[vR xa, vR xb, vR xb] [.ref xb, .ref x1])) _
  refine qG X5 hx hby hZ hown (wh hw 100 rfl) e5 P9 d26_30 (fun T6 X6 e6 => ?_)
  obtain ⟨Eaq7, Vaq7, kbaq7, cdaq7, Naq7, vsaq7, Caq7, Aaq7, caq7, baq7, laq7⟩ := id P12
  obtain ⟨Ebq7, Vbq7, kbbq7, cdbq7, Nbq7, vsbq7, Cbq7, Abq7, cbq7, bbq7, lbq7⟩ := id P15
  have Szq7 := G0.ext O0.2
  obtain ⟨cqq7, kqq7, qq7a, qq7b, qq7c⟩ := isOf hZ e6 Eaq7
  obtain ⟨v8, _, ⟨T8, L8, k8, n8⟩, -, X8, ⟨Lc8, hQ8, l8, y8, z8⟩, st8⟩ := X6.virtualBack hx (y := own_m25) (z := own_m25) hown (mvT hZ (wh hw 142 rfl)) (mvT hZ (wh hw 118 rfl)) (notFace_of_selects (args := #[]) (mvT hZ (wh hw 120 rfl))) (mvT hZ (wh hw 120 rfl)) (mvT hZ (wh hw 119 rfl)) (by decide) (StrChars.Road.eqW (W := 0) hZ (own_wEq hw) (kI := 4) (wh hw 5 rfl) Eaq7 Vaq7 Caq7 Aaq7 caq7 baq7 laq7 Ebq7 Vbq7 Cbq7 Abq7 cbq7 bbq7 lbq7 Szq7 G1 (by decide) (by decide)) qq7a qq7c (g := (mkF m 33 #[vR xa, vR xb, vR xb] [.ref y1, .ref x1])) rfl (by rw [hml]; rfl) (Steps.refl _) (argsL := [.ref y1]) (rest := []) (lenOf own_pd_26 rfl) rfl (by show 2 * 0 + _ ≤ _; exact Nat.le_of_eq rfl) (hb hby d26_33) (fun _ _ => ⟨rfl, e6, (by decide : 0 + 0 ≤ _), (by decide : 0 + 0 ≤ _)⟩)
  dsimp only [Pt.U, Pt.locs, Pt.cells, Pt.slots] at X8 l8 y8 z8 st8 hQ8
  subst l8 y8 z8
  obtain ⟨hv8, rfl, e8⟩ := hQ8
  have N8 := Fr.app N0 (Fr.nil n0)
  rcases hv8 with ⟨rfl, hq8⟩ | ⟨rfl, hq8⟩
  · refine own_goS st8 ?_
    refine q_ifNo X8 hx hby d26_36 ((if0 _ _).trans (feq (show ¬ ((1 : Int32) = (0 : Int32)) from by decide)).1) ?_
    refine q_aloadN X8 hx hby d26_39 rfl rfl ?_
    refine qG X8 hx hby hZ hown (wh hw 102 rfl) e8 P2 d26_40 (fun T9 X9 e9 => ?_)
    refine q_aloadN X9 hx hby d26_43 rfl rfl ?_
    refine qG X9 hx hby hZ hown (wh hw 102 rfl) e9 P10 d26_44 (fun T10 X10 e10 => ?_)
    obtain ⟨Eaq11, Vaq11, kbaq11, cdaq11, Naq11, vsaq11, Caq11, Aaq11, caq11, baq11, laq11⟩ := id P13
    obtain ⟨Ebq11, Vbq11, kbbq11, cdbq11, Nbq11, vsbq11, Cbq11, Abq11, cbq11, bbq11, lbq11⟩ := id P16
    have Szq11 := G0.ext O0.2
    obtain ⟨cqq11, kqq11, qq11a, qq11b, qq11c⟩ := isOf hZ e10 Eaq11
    obtain ⟨v12, _, ⟨T12, L12, k12, n12⟩, -, X12, ⟨Lc12, hQ12, l12, y12, z12⟩, st12⟩ := X10.virtualBack hx (y := own_m25) (z := own_m25) hown (mvT hZ (wh hw 142 rfl)) (mvT hZ (wh hw 118 rfl)) (notFace_of_selects (args := #[]) (mvT hZ (wh hw 120 rfl))) (mvT hZ (wh hw 120 rfl)) (mvT hZ (wh hw 119 rfl)) (by decide) (StrChars.Road.eqW (W := 0) hZ (own_wEq hw) (kI := 4) (wh hw 5 rfl) Eaq11 Vaq11 Caq11 Aaq11 caq11 baq11 laq11 Ebq11 Vbq11 Cbq11 Abq11 cbq11 bbq11 lbq11 Szq11 G1 (by decide) (by decide)) qq11a qq11c (g := (mkF m 47 #[vR xa, vR xb, vR xb] [.ref y2, .ref x2])) rfl (by rw [hml]; rfl) (Steps.refl _) (argsL := [.ref y2]) (rest := []) (lenOf own_pd_26 rfl) rfl (by show 2 * 0 + _ ≤ _; exact Nat.le_of_eq rfl) (hb hby d26_47) (fun _ _ => ⟨rfl, e10, (by decide : 0 + 0 ≤ _), (by decide : 0 + 0 ≤ _)⟩)
    dsimp only [Pt.U, Pt.locs, Pt.cells, Pt.slots] at X12 l12 y12 z12 st12 hQ12
    subst l12 y12 z12
    obtain ⟨hv12, rfl, e12⟩ := hQ12
    have N12 := Fr.app N8 (Fr.nil n0)
    rcases hv12 with ⟨rfl, hq12⟩ | ⟨rfl, hq12⟩
    · refine own_goS st12 ?_
      refine q_ifNo X12 hx hby d26_50 ((if0 _ _).trans (feq (show ¬ ((1 : Int32) = (0 : Int32)) from by decide)).1) ?_
      refine q_aloadN X12 hx hby d26_53 rfl rfl ?_
      refine qG X12 hx hby hZ hown (wh hw 104 rfl) e12 P3 d26_54 (fun T13 X13 e13 => ?_)
      refine q_aloadN X13 hx hby d26_57 rfl rfl ?_
      refine qG X13 hx hby hZ hown (wh hw 104 rfl) e13 P11 d26_58 (fun T14 X14 e14 => ?_)
      obtain ⟨Eaq15, Vaq15, kbaq15, cdaq15, Naq15, vsaq15, Caq15, Aaq15, caq15, baq15, laq15⟩ := id P14
      obtain ⟨Ebq15, Vbq15, kbbq15, cdbq15, Nbq15, vsbq15, Cbq15, Abq15, cbq15, bbq15, lbq15⟩ := id P17
      have Szq15 := G0.ext O0.2
      obtain ⟨cqq15, kqq15, qq15a, qq15b, qq15c⟩ := isOf hZ e14 Eaq15
      obtain ⟨v16, _, ⟨T16, L16, k16, n16⟩, -, X16, ⟨Lc16, hQ16, l16, y16, z16⟩, st16⟩ := X14.virtualBack hx (y := own_m25) (z := own_m25) hown (mvT hZ (wh hw 142 rfl)) (mvT hZ (wh hw 118 rfl)) (notFace_of_selects (args := #[]) (mvT hZ (wh hw 120 rfl))) (mvT hZ (wh hw 120 rfl)) (mvT hZ (wh hw 119 rfl)) (by decide) (StrChars.Road.eqW (W := 0) hZ (own_wEq hw) (kI := 4) (wh hw 5 rfl) Eaq15 Vaq15 Caq15 Aaq15 caq15 baq15 laq15 Ebq15 Vbq15 Cbq15 Abq15 cbq15 bbq15 lbq15 Szq15 G1 (by decide) (by decide)) qq15a qq15c (g := (mkF m 61 #[vR xa, vR xb, vR xb] [.ref y3, .ref x3])) rfl (by rw [hml]; rfl) (Steps.refl _) (argsL := [.ref y3]) (rest := []) (lenOf own_pd_26 rfl) rfl (by show 2 * 0 + _ ≤ _; exact Nat.le_of_eq rfl) (hb hby d26_61) (fun _ _ => ⟨rfl, e14, (by decide : 0 + 0 ≤ _), (by decide : 0 + 0 ≤ _)⟩)
      dsimp only [Pt.U, Pt.locs, Pt.cells, Pt.slots] at X16 l16 y16 z16 st16 hQ16
      subst l16 y16 z16
      obtain ⟨hv16, rfl, e16⟩ := hQ16
      have N16 := Fr.app N12 (Fr.nil n0)
      rcases hv16 with ⟨rfl, hq16⟩ | ⟨rfl, hq16⟩
      · refine own_goS st16 ?_
        show own_Goes p e below (T16.setTop (mkF m 64 #[vR xa, vR xb, vR xb] [.int 1])) _
        refine q_ifNo X16 hx hby d26_64 ((if0 _ _).trans (feq (show ¬ ((1 : Int32) = (0 : Int32)) from by decide)).1) ?_
        refine q_iconst X16 hx hby d26_67 ?_
        refine q_goto (pc := 68) X16 hx hby d26_68 (pc' := 72) (by decide) (by decide) ?_
        refine r_Z X16 hx hby hret hlk d26_72 e16 ?_
        exact ⟨N16, rfl, (1 : Int32), rfl, (Or.inl ⟨rfl, hq8, hq12, hq16⟩)⟩
      · refine own_goS st16 ?_
        refine q_ifYes (pc := 64) X16 hx hby d26_64 (pc' := 71) ((if0 _ _).trans (teq (show ((0 : Int32) = (0 : Int32)) from by decide)).1) (by decide) (by decide) ?_
        refine q_iconst X16 hx hby d26_71 ?_
        refine r_Z X16 hx hby hret hlk d26_72 e16 ?_
        exact ⟨N16, rfl, (0 : Int32), rfl, (Or.inr ⟨rfl, fun q_ => hq16 q_.2.2⟩)⟩
    · refine own_goS st12 ?_
      refine q_ifYes (pc := 50) X12 hx hby d26_50 (pc' := 71) ((if0 _ _).trans (teq (show ((0 : Int32) = (0 : Int32)) from by decide)).1) (by decide) (by decide) ?_
      refine q_iconst X12 hx hby d26_71 ?_
      refine r_Z X12 hx hby hret hlk d26_72 e12 ?_
      exact ⟨N12, rfl, (0 : Int32), rfl, (Or.inr ⟨rfl, fun q_ => hq12 q_.2.1⟩)⟩
  · refine own_goS st8 ?_
    refine q_ifYes (pc := 36) X8 hx hby d26_36 (pc' := 71) ((if0 _ _).trans (teq (show ((0 : Int32) = (0 : Int32)) from by decide)).1) (by decide) (by decide) ?_
    refine q_iconst X8 hx hby d26_71 ?_
    refine r_Z X8 hx hby hret hlk d26_72 e8 ?_
    exact ⟨N8, rfl, (0 : Int32), rfl, (Or.inr ⟨rfl, fun q_ => hq8 q_.1⟩)⟩
theorem own_pd_27 : parseMethodDescriptor "(I)Ljava/lang/String;" = some ⟨[.int], some (.object "java/lang/String")⟩ := by decide +kernel
abbrev own_m28 : MethodName := ⟨"com/example/circa_once/circaonce/model/ScopeOfPinLaw", "str", "(I)Ljava/lang/String;"⟩
theorem own_pd_29 : parseMethodDescriptor "(Ljava/lang/String;Ljava/lang/String;Ljava/lang/String;)Lcom/example/circa_once/circaonce/model/Scope;" = some ⟨[(.object "java/lang/String"), (.object "java/lang/String"), (.object "java/lang/String")], some (.object "com/example/circa_once/circaonce/model/Scope")⟩ := by decide +kernel
abbrev own_m30 : MethodName := ⟨"com/example/circa_once/circaonce/model/Scope", "of", "(Ljava/lang/String;Ljava/lang/String;Ljava/lang/String;)Lcom/example/circa_once/circaonce/model/Scope;"⟩
theorem own_pd_31 : parseMethodDescriptor "()Lcom/example/circa_once/circaonce/model/Scope$Kind;" = some ⟨[], some (.object "com/example/circa_once/circaonce/model/Scope$Kind")⟩ := by decide +kernel
abbrev own_m32 : MethodName := ⟨"com/example/circa_once/circaonce/model/Scope", "kind", "()Lcom/example/circa_once/circaonce/model/Scope$Kind;"⟩
theorem own_pd_33 : parseMethodDescriptor "()Ljava/lang/String;" = some ⟨[], some (.object "java/lang/String")⟩ := by decide +kernel
abbrev own_m34 : MethodName := ⟨"com/example/circa_once/circaonce/model/Scope", "tenant", "()Ljava/lang/String;"⟩
abbrev own_m35 : MethodName := ⟨"com/example/circa_once/circaonce/model/Scope", "caller", "()Ljava/lang/String;"⟩
abbrev own_m36 : MethodName := ⟨"com/example/circa_once/circaonce/model/Scope", "operation", "()Ljava/lang/String;"⟩
abbrev own_m37 : MethodName := ⟨"com/example/circa_once/circaonce/model/Scope", "equals", "(Ljava/lang/Object;)Z"⟩
theorem own_pd_38 : parseMethodDescriptor "(Ljava/lang/String;)Lcom/example/circa_once/circaonce/model/Scope;" = some ⟨[(.object "java/lang/String")], some (.object "com/example/circa_once/circaonce/model/Scope")⟩ := by decide +kernel
abbrev own_m39 : MethodName := ⟨"com/example/circa_once/circaonce/model/Scope", "ofConsumer", "(Ljava/lang/String;)Lcom/example/circa_once/circaonce/model/Scope;"⟩
theorem own_ef_rm0 (m : MethodId) (x0 : Int32) (x1 : Int32) (x2 : Int32) (x3 : Int32) (x4 : Int32) (x5 : Int32) : entryFrame m #[.int x0, .int x1, .int x2, .int x3, .int x4, .int x5] maxLocals = mkF m 0 #[vI x0, vI x1, vI x2, vI x3, vI x4, vI x5, uS, uS, uS, uS, uS, uS, uS, uS, uS, uS, uS] [] := by first | (simp [entryFrame, mkF, argsToLocals, Value.category, maxLocals]; done) | rfl
def Q_rm0 (Z : State) (x0 : Int32) (x1 : Int32) (x2 : Int32) (x3 : Int32) (x4 : Int32) (x5 : Int32) (gz : Int32) (gfm : Value) (gwC : Addr) (gwM : Addr) (h0 : Heap) (n0 : Nat) (v : Option Value) (h : Heap) (L : List Loc) : Prop := Fr n0 L ∧ True ∧ v = some (.int 1)
theorem rm0 (l : Launch) (Z : State) (a0 : Array Value) (hw : ∀ d ∈ tables_1, d.before a0 Z = true) (ws : List Jvm.Cond) (x0 : Int32) (x1 : Int32) (x2 : Int32) (x3 : Int32) (x4 : Int32) (x5 : Int32) (h0 : Heap) (n0 : Nat) (O0 : Old Z n0 h0) (gz : Int32) (gfm : Value) (gwC : Addr) (gwM : Addr) (G : GG Z gz gfm gwC gwM) :
    MetFree l x (head1 (Jvm.Cond.code x code maxLocals ret :: ws) room_1) (fun as_ U_ => as_ = #[.int x0, .int x1, .int x2, .int x3, .int x4, .int x5] ∧ Z.Warmed39 U_.vm ∧ U_.heap = h0 ∧ CHv Z consts_1 U_.vm h0) (fun _ _ _ _ _ => True) (fun _ U_ o_ U2_ => ∃ v_ L_, o_ = .returned v_ ∧ Q_rm0 Z x0 x1 x2 x3 x4 x5 gz gfm gwC gwM h0 n0 v_ U2_.heap L_ ∧ CHr Z consts_1 U_.vm U_.heap U2_.vm U2_.heap ∧ ReturnedEndW U_ o_ U2_ L_ room_1.cells room_1.slots) := by
  refine MetFree.of_bodySF (plainFor_of_name own_pn_com_example_circa_once_circaonce_model_ScopeOfPinLaw) hisR ?_
  intro p e s m args below meth c s₁ Bd hml0 hP hK
  obtain ⟨rfl, hZ, hh, hC0⟩ := hP
  have hx := Bd.exec
  have hby := Bd.bytes
  have hml : c.maxLocals = 17 := hml0
  have hown : s.vm.findClass "com/example/circa_once/circaonce/model/ScopeOfPinLaw" = some m.cls := findClass_of_methodNamed Bd.named
  have hnm := (name_of_methodNamed Bd.named Bd.method).1
  have hlk : meth.locks = false := Bd.notSynchronized
  have hret := Bd.returns
  have X0 : Stand p l e room_1 s m #[.int x0, .int x1, .int x2, .int x3, .int x4, .int x5] below meth c s₁ [] 0 0 := Stand.of_body Bd
  have e0 : s₁.heap = h0 := by rw [← hh, Bd.state]; rfl
  have N0 := Fr.nil n0
  have z0 : Z.heap.size = n0 := O0.1
  have z1 : n0 ≤ h0.size := z0 ▸ O0.2.1
  have hS0 : s.Since s.vm 0 := (State.WarmedH.refl s).since 0
  have hk0 : 0 ≤ h0.size := Nat.zero_le _
  replace X0 : Stand p l e room_1 (s.setVm s.vm) m #[.int x0, .int x1, .int x2, .int x3, .int x4, .int x5] below meth c s₁ [] 0 0 := X0
  have CR0 := CHr.refl hC0
  show own_Goes p e below (s₁.setTop (entryFrame m #[.int x0, .int x1, .int x2, .int x3, .int x4, .int x5] maxLocals)) (own_PostH Z consts_1 s (Q_rm0 Z x0 x1 x2 x3 x4 x5 gz gfm gwC gwM h0 n0) room_1.cells room_1.slots)
  refine own_cast (own_ef_rm0 m x0 x1 x2 x3 x4 x5) ?_
  show own_Goes p e below (s₁.setTop (mkF m 0 #[vI x0, vI x1, vI x2, vI x3, vI x4, vI x5, uS, uS, uS, uS, uS, uS, uS, uS, uS, uS, uS] [])) _
  obtain ⟨G0, G1, G2, G3, G4, G5, G6, G7, G8, G9, G10, G11⟩ := id G
  have ltG8 : @LT.lt Nat _ gwC Z.heap.size := G8.lt
  have ltG10 : @LT.lt Nat _ gwM Z.heap.size := G10.lt
  refine q_iloadN X0 hx hby at_0 rfl ?_
  obtain ⟨_, _, ⟨T1, L1, k1, n1⟩, -, X1, hS1, gr1, ⟨Lc1, hQ1, l1, y1, z1, cs1⟩, st1⟩ := Jvm.RoadKit.callSS X0 hx (y := own_m28) hown (mvT hZ (wh hw 0 rfl)) (mvT hZ (wh hw 1 rfl)) (mvT hZ (wh hw 2 rfl)) (mvT hZ (wh hw 3 rfl)) (by decide) (backOfSH (W := 0) (own_str l Z a0 hw [] x0 h0 n0 O0 gz gfm gwC gwM G) hZ (wh hw 3 rfl) (wh hw 2 rfl) (by decide) (by decide) (own_EW hw) CR0.1) (g := (mkF m 1 #[vI x0, vI x1, vI x2, vI x3, vI x4, vI x5, uS, uS, uS, uS, uS, uS, uS, uS, uS, uS, uS] [.int x0])) rfl (by rw [hml]; rfl) (argsL := [.int x0]) (rest := []) (lenOf own_pd_27 rfl) rfl (by show 2 * 0 + _ ≤ _; exact Nat.le_of_eq rfl) (hb hby at_1) (fun _ _ => ⟨rfl, e0, (by decide : 0 + 6 ≤ _), (by decide : 0 + 16 ≤ _)⟩)
  dsimp only [Pt.U, Pt.locs, Pt.cells, Pt.slots] at X1 l1 y1 z1 st1 hQ1 hS1 gr1 cs1
  subst l1 y1 z1
  obtain ⟨h1, e1⟩ : ∃ z, T1.heap = z := ⟨_, rfl⟩
  rw [e1] at hQ1 hS1 gr1 cs1
  obtain ⟨Nc1, Kc1, r_1, rb_1, cs_1, rfl, c1_0, c1_1, c1_2⟩ := hQ1
  obtain ⟨X1, hS1, hZ1, hown1⟩ := rebS (own := "com/example/circa_once/circaonce/model/ScopeOfPinLaw") hS0 (show _ ≤ s₁.heap.size by rw [e0]; exact hk0) X1 hS1 gr1 hZ hown
  have hk1 : h1.size ≤ h1.size := Nat.le_refl _
  have N1 := Fr.app N0 Nc1
  have O2 := O0.keep Kc1 all0
  have sz3 : h0.size ≤ h1.size := Kc1.1
  have CR4 := CHr.trans CR0 cs1
  have ltc1_0 : @LT.lt Nat _ r_1 h1.size := c1_0.1.lt
  have luc1_0 : @LT.lt Nat _ rb_1 h1.size := c1_0.lt2
  refine own_goS st1 ?_
  refine q_astore X1 hx hby at_4 rfl (l' := #[vI x0, vI x1, vI x2, vI x3, vI x4, vI x5, vR r_1, uS, uS, uS, uS, uS, uS, uS, uS, uS, uS]) rfl ?_
  refine q_iloadN X1 hx hby at_6 rfl ?_
  obtain ⟨_, _, ⟨T5, L5, k5, n5⟩, -, X5, hS5, gr5, ⟨Lc5, hQ5, l5, y5, z5, cs5⟩, st5⟩ := Jvm.RoadKit.callSS X1 hx (y := own_m28) hown1 (mvT hZ1 (wh hw 0 rfl)) (mvT hZ1 (wh hw 1 rfl)) (mvT hZ1 (wh hw 2 rfl)) (mvT hZ1 (wh hw 3 rfl)) (by decide) (backOfSH (W := 0) (own_str l Z a0 hw [] x1 h1 n0 O2 gz gfm gwC gwM G) hZ1 (wh hw 3 rfl) (wh hw 2 rfl) (by decide) (by decide) (own_EW hw) CR4.1) (g := (mkF m 7 #[vI x0, vI x1, vI x2, vI x3, vI x4, vI x5, vR r_1, uS, uS, uS, uS, uS, uS, uS, uS, uS, uS] [.int x1])) rfl (by rw [hml]; rfl) (argsL := [.int x1]) (rest := []) (lenOf own_pd_27 rfl) rfl (by show 2 * 0 + _ ≤ _; exact Nat.le_of_eq rfl) (hb hby at_7) (fun _ _ => ⟨rfl, e1, (by decide : 6 + 6 ≤ _), (by decide : 16 + 16 ≤ _)⟩)
  dsimp only [Pt.U, Pt.locs, Pt.cells, Pt.slots] at X5 l5 y5 z5 st5 hQ5 hS5 gr5 cs5
  subst l5 y5 z5
  obtain ⟨h5, e5⟩ : ∃ z, T5.heap = z := ⟨_, rfl⟩
  rw [e5] at hQ5 hS5 gr5 cs5
  obtain ⟨Nc5, Kc5, r_5, rb_5, cs_5, rfl, c5_0, c5_1, c5_2⟩ := hQ5
  obtain ⟨X5, hS5, hZ5, hown5⟩ := rebS (own := "com/example/circa_once/circaonce/model/ScopeOfPinLaw") hS1 (show _ ≤ T1.heap.size by rw [e1]; exact hk1) X5 hS5 gr5 hZ1 hown1
  have hk5 : h5.size ≤ h5.size := Nat.le_refl _
  have N5 := Fr.app N1 Nc5
  have O6 := O2.keep Kc5 all0
  have sz7 : h1.size ≤ h5.size := Kc5.1
  have CR8 := CHr.trans CR4 cs5
  have ltc5_0 : @LT.lt Nat _ r_5 h5.size := c5_0.1.lt
  have luc5_0 : @LT.lt Nat _ rb_5 h5.size := c5_0.lt2
  refine own_goS st5 ?_
  refine q_astore X5 hx hby at_10 rfl (l' := #[vI x0, vI x1, vI x2, vI x3, vI x4, vI x5, vR r_1, vR r_5, uS, uS, uS, uS, uS, uS, uS, uS, uS]) rfl ?_
  refine q_iloadN X5 hx hby at_12 rfl ?_
  obtain ⟨_, _, ⟨T9, L9, k9, n9⟩, -, X9, hS9, gr9, ⟨Lc9, hQ9, l9, y9, z9, cs9⟩, st9⟩ := Jvm.RoadKit.callSS X5 hx (y := own_m28) hown5 (mvT hZ5 (wh hw 0 rfl)) (mvT hZ5 (wh hw 1 rfl)) (mvT hZ5 (wh hw 2 rfl)) (mvT hZ5 (wh hw 3 rfl)) (by decide) (backOfSH (W := 0) (own_str l Z a0 hw [] x2 h5 n0 O6 gz gfm gwC gwM G) hZ5 (wh hw 3 rfl) (wh hw 2 rfl) (by decide) (by decide) (own_EW hw) CR8.1) (g := (mkF m 13 #[vI x0, vI x1, vI x2, vI x3, vI x4, vI x5, vR r_1, vR r_5, uS, uS, uS, uS, uS, uS, uS, uS, uS] [.int x2])) rfl (by rw [hml]; rfl) (argsL := [.int x2]) (rest := []) (lenOf own_pd_27 rfl) rfl (by show 2 * 0 + _ ≤ _; exact Nat.le_of_eq rfl) (hb hby at_13) (fun _ _ => ⟨rfl, e5, (by decide : 12 + 6 ≤ _), (by decide : 32 + 16 ≤ _)⟩)
  dsimp only [Pt.U, Pt.locs, Pt.cells, Pt.slots] at X9 l9 y9 z9 st9 hQ9 hS9 gr9 cs9
  subst l9 y9 z9
  obtain ⟨h9, e9⟩ : ∃ z, T9.heap = z := ⟨_, rfl⟩
  rw [e9] at hQ9 hS9 gr9 cs9
  obtain ⟨Nc9, Kc9, r_9, rb_9, cs_9, rfl, c9_0, c9_1, c9_2⟩ := hQ9
  obtain ⟨X9, hS9, hZ9, hown9⟩ := rebS (own := "com/example/circa_once/circaonce/model/ScopeOfPinLaw") hS5 (show _ ≤ T5.heap.size by rw [e5]; exact hk5) X9 hS9 gr9 hZ5 hown5
  have hk9 : h9.size ≤ h9.size := Nat.le_refl _
  have N9 := Fr.app N5 Nc9
  have O10 := O6.keep Kc9 all0
  have sz11 : h5.size ≤ h9.size := Kc9.1
  have CR12 := CHr.trans CR8 cs9
  have ltc9_0 : @LT.lt Nat _ r_9 h9.size := c9_0.1.lt
  have luc9_0 : @LT.lt Nat _ rb_9 h9.size := c9_0.lt2
  refine own_goS st9 ?_
  refine q_astore X9 hx hby at_16 rfl (l' := #[vI x0, vI x1, vI x2, vI x3, vI x4, vI x5, vR r_1, vR r_5, vR r_9, uS, uS, uS, uS, uS, uS, uS, uS]) rfl ?_
  have TL : ∀ (T_ : State) (h_ : Heap) (L_ : List Loc) (vm_ : Vm) (q_ : Nat) (u1_ v1_ u2_ v2_ u3_ v3_ : Addr) (d1_ d2_ d3_ : List Int32), Stand p l e room_1 (s.setVm vm_) m #[.int x0, .int x1, .int x2, .int x3, .int x4, .int x5] below meth c T_ L_ 40 200 → s.Since vm_ q_ → q_ ≤ h_.size → Z.Warmed39 vm_ → vm_.findClass "com/example/circa_once/circaonce/model/ScopeOfPinLaw" = some m.cls → CHr Z consts_1 s.vm h0 vm_ h_ → T_.heap = h_ → Fr n0 L_ → Old Z n0 h_ → own_Str Z h_ r_1 rb_1 cs_1 → own_Str Z h_ r_5 rb_5 cs_5 → own_Str Z h_ r_9 rb_9 cs_9 → own_Str Z h_ u1_ v1_ d1_ → own_Str Z h_ u2_ v2_ d2_ → own_Str Z h_ u3_ v3_ d3_ → own_Ok d1_ → own_Ok d2_ → own_Ok d3_ → own_Goes p e below (T_.setTop (mkF m 76 #[vI x0, vI x1, vI x2, vI x3, vI x4, vI x5, vR r_1, vR r_5, vR r_9, vR u1_, vR u2_, vR u3_, uS, uS, uS, uS, uS] [])) (own_PostH Z consts_1 s (Q_rm0 Z x0 x1 x2 x3 x4 x5 gz gfm gwC gwM h0 n0) room_1.cells room_1.slots) := by
    intro T_ h_ L_ vm_ q_ u1_ v1_ u2_ v2_ u3_ v3_ d1_ d2_ d3_ X_ hS_ hk_ hZ_ hown_ CR_ e_ N_ O_ A0_ A1_ A2_ B1_ B2_ B3_ K1_ K2_ K3_
    have ltA0_ : @LT.lt Nat _ r_1 h_.size := A0_.1.lt
    have luA0_ : @LT.lt Nat _ rb_1 h_.size := A0_.lt2
    have ltA1_ : @LT.lt Nat _ r_5 h_.size := A1_.1.lt
    have luA1_ : @LT.lt Nat _ rb_5 h_.size := A1_.lt2
    have ltA2_ : @LT.lt Nat _ r_9 h_.size := A2_.1.lt
    have luA2_ : @LT.lt Nat _ rb_9 h_.size := A2_.lt2
    have ltB1_ : @LT.lt Nat _ u1_ h_.size := B1_.1.lt
    have luB1_ : @LT.lt Nat _ v1_ h_.size := B1_.lt2
    have ltB2_ : @LT.lt Nat _ u2_ h_.size := B2_.1.lt
    have luB2_ : @LT.lt Nat _ v2_ h_.size := B2_.lt2
    have ltB3_ : @LT.lt Nat _ u3_ h_.size := B3_.1.lt
    have luB3_ : @LT.lt Nat _ v3_ h_.size := B3_.lt2
    show own_Goes p e below (T_.setTop (mkF m 76 #[vI x0, vI x1, vI x2, vI x3, vI x4, vI x5, vR r_1, vR r_5, vR r_9, vR u1_, vR u2_, vR u3_, uS, uS, uS, uS, uS] [])) _
    refine q_aload X_ hx hby at_76 rfl rfl ?_
    refine q_aload X_ hx hby at_78 rfl rfl ?_
    refine q_aload X_ hx hby at_80 rfl rfl ?_
    obtain ⟨_, _, ⟨T13, L13, k13, n13⟩, -, X13, hS13, gr13, ⟨Lc13, hQ13, l13, y13, z13, cs13⟩, st13⟩ := Jvm.RoadKit.callSS X_ hx (y := own_m30) hown_ (mvT hZ_ (wh hw 37 rfl)) (mvT hZ_ (wh hw 38 rfl)) (mvT hZ_ (wh hw 39 rfl)) (mvT hZ_ (wh hw 40 rfl)) (by decide) (backOfSH (W := 0) (own_of l Z a0 hw [] r_1 rb_1 cs_1 r_5 rb_5 cs_5 r_9 rb_9 cs_9 h_ n0 O_ gz gfm gwC gwM G A0_ (show own_Ok cs_1 from c1_1) A1_ (show own_Ok cs_5 from c5_1) A2_ (show own_Ok cs_9 from c9_1)) hZ_ (wh hw 40 rfl) (wh hw 39 rfl) (by decide) (by decide) (own_EW hw) CR_.1) (g := (mkF m 82 #[vI x0, vI x1, vI x2, vI x3, vI x4, vI x5, vR r_1, vR r_5, vR r_9, vR u1_, vR u2_, vR u3_, uS, uS, uS, uS, uS] [.ref r_9, .ref r_5, .ref r_1])) rfl (by rw [hml]; rfl) (argsL := [.ref r_1, .ref r_5, .ref r_9]) (rest := []) (lenOf own_pd_29 rfl) rfl (by show 2 * 0 + _ ≤ _; exact Nat.le_of_eq rfl) (hb hby at_82) (fun _ _ => ⟨rfl, e_, (by decide : 40 + 7 ≤ _), (by decide : 200 + 100 ≤ _)⟩)
    dsimp only [Pt.U, Pt.locs, Pt.cells, Pt.slots] at X13 l13 y13 z13 st13 hQ13 hS13 gr13 cs13
    subst l13 y13 z13
    obtain ⟨h13, e13⟩ : ∃ z, T13.heap = z := ⟨_, rfl⟩
    rw [e13] at hQ13 hS13 gr13 cs13
    obtain ⟨Nc13, Kc13, r_13, rfl, c13_0, c13_1, c13_2, c13_3, c13_4, c13_5⟩ := hQ13
    obtain ⟨X13, hS13, hZ13, hown13⟩ := rebS (own := "com/example/circa_once/circaonce/model/ScopeOfPinLaw") hS_ (show _ ≤ T_.heap.size by rw [e_]; exact hk_) X13 hS13 gr13 hZ_ hown_
    have hk13 : h13.size ≤ h13.size := Nat.le_refl _
    have N13 := Fr.app N_ Nc13
    have O14 := O_.keep Kc13 all0
    have sz15 : h_.size ≤ h13.size := Kc13.1
    have CR16 := CHr.trans CR_ cs13
    have ltc13_0 : @LT.lt Nat _ r_13 h13.size := c13_0.lt
    refine own_goS st13 ?_
    refine q_astore X13 hx hby at_85 rfl (l' := #[vI x0, vI x1, vI x2, vI x3, vI x4, vI x5, vR r_1, vR r_5, vR r_9, vR u1_, vR u2_, vR u3_, vR r_13, uS, uS, uS, uS]) rfl ?_
    refine q_aload X13 hx hby at_87 rfl rfl ?_
    obtain ⟨cqiv17, kqiv17, qiv17a, qiv17b, qiv17c⟩ := isOf hZ13 e13 c13_0
    obtain ⟨_, _, ⟨T18, L18, k18, n18⟩, -, X18, ⟨Lc18, hQ18, l18, y18, z18⟩, st18⟩ := X13.virtualBack hx (y := own_m32) (z := own_m32) hown13 (mvT hZ13 (wh hw 106 rfl)) (mvT hZ13 (wh hw 107 rfl)) (notFace_of_selects (args := #[]) (mvT hZ13 (wh hw 109 rfl))) (mvT hZ13 (wh hw 109 rfl)) (mvT hZ13 (wh hw 108 rfl)) (by decide) (backOf (W := 0) (own_kind l Z a0 hw [] r_13 gwC h13 n0 O14 c13_1) hZ13 (wh hw 110 rfl) (wh hw 39 rfl) (by decide) (by decide)) qiv17a qiv17c (g := (mkF m 89 #[vI x0, vI x1, vI x2, vI x3, vI x4, vI x5, vR r_1, vR r_5, vR r_9, vR u1_, vR u2_, vR u3_, vR r_13, uS, uS, uS, uS] [.ref r_13])) rfl (by rw [hml]; rfl) (Steps.refl _) (argsL := []) (rest := []) (lenOf own_pd_31 rfl) rfl (by show 2 * 0 + _ ≤ _; exact Nat.le_of_eq rfl) (hb hby at_89) (fun _ _ => ⟨rfl, e13, (by decide : 47 + 0 ≤ _), (by decide : 300 + 0 ≤ _)⟩)
    dsimp only [Pt.U, Pt.locs, Pt.cells, Pt.slots] at X18 l18 y18 z18 st18 hQ18
    subst l18 y18 z18
    obtain ⟨Nc18, e18, rfl⟩ := hQ18
    have N18 := Fr.app N13 Nc18
    refine own_goS st18 ?_
    have q19 := G7.ext O14.2
    refine qS X18 hx hby hZ13 hown13 (host := "") (Or.inl (wh hw 111 rfl)) Via.refl e18 q19 at_92 (fun T20 X20 e20 => ?_)
    refine gg (fun t k => Jvm.RoadKit.acmp (g := (mkF m 95 #[vI x0, vI x1, vI x2, vI x3, vI x4, vI x5, vR r_1, vR r_5, vR r_9, vR u1_, vR u2_, vR u3_, vR r_13, uS, uS, uS, uS] [.ref gwC, .ref gwC])) X20 hx rfl rfl rfl (pc0 := 95) (pc' := 98) (same := true) rfl (hb hby at_95) rfl (decide_eq_true rfl) (by decide) (by decide) k) ?_
    refine q_iconst X20 hx hby at_98 ?_
    refine q_goto (pc := 99) X20 hx hby at_99 (pc' := 103) (by decide) (by decide) ?_
    refine q_istore X20 hx hby at_103 (l' := #[vI x0, vI x1, vI x2, vI x3, vI x4, vI x5, vR r_1, vR r_5, vR r_9, vR u1_, vR u2_, vR u3_, vR r_13, vI 1, uS, uS, uS]) rfl ?_
    refine q_iload X20 hx hby at_105 rfl ?_
    refine q_ifNo X20 hx hby at_107 ((if0 _ _).trans (feq (show ¬ ((1 : Int32) = (0 : Int32)) from by decide)).1) ?_
    show own_Goes p e below (T20.setTop (mkF m 110 #[vI x0, vI x1, vI x2, vI x3, vI x4, vI x5, vR r_1, vR r_5, vR r_9, vR u1_, vR u2_, vR u3_, vR r_13, vI 1, uS, uS, uS] [])) _
    refine q_aload X20 hx hby at_110 rfl rfl ?_
    obtain ⟨cqiv21, kqiv21, qiv21a, qiv21b, qiv21c⟩ := isOf hZ13 e20 c13_0
    obtain ⟨_, _, ⟨T22, L22, k22, n22⟩, -, X22, ⟨Lc22, hQ22, l22, y22, z22⟩, st22⟩ := X20.virtualBack hx (y := own_m34) (z := own_m34) hown13 (mvT hZ13 (wh hw 112 rfl)) (mvT hZ13 (wh hw 113 rfl)) (notFace_of_selects (args := #[]) (mvT hZ13 (wh hw 115 rfl))) (mvT hZ13 (wh hw 115 rfl)) (mvT hZ13 (wh hw 114 rfl)) (by decide) (backOf (W := 0) (own_tenant l Z a0 hw [] r_13 r_1 h13 n0 O14 c13_2) hZ13 (wh hw 116 rfl) (wh hw 39 rfl) (by decide) (by decide)) qiv21a qiv21c (g := (mkF m 112 #[vI x0, vI x1, vI x2, vI x3, vI x4, vI x5, vR r_1, vR r_5, vR r_9, vR u1_, vR u2_, vR u3_, vR r_13, vI 1, uS, uS, uS] [.ref r_13])) rfl (by rw [hml]; rfl) (Steps.refl _) (argsL := []) (rest := []) (lenOf own_pd_33 rfl) rfl (by show 2 * 0 + _ ≤ _; exact Nat.le_of_eq rfl) (hb hby at_112) (fun _ _ => ⟨rfl, e20, (by decide : 47 + 0 ≤ _), (by decide : 300 + 0 ≤ _)⟩)
    dsimp only [Pt.U, Pt.locs, Pt.cells, Pt.slots] at X22 l22 y22 z22 st22 hQ22
    subst l22 y22 z22
    obtain ⟨Nc22, e22, rfl⟩ := hQ22
    have N22 := Fr.app N18 Nc22
    refine own_goS st22 ?_
    refine q_aload X22 hx hby at_115 rfl rfl ?_
    have f23 := (A0_.1.keep Kc13)
    obtain ⟨cqiv24, kqiv24, qiv24a, qiv24b, qiv24c⟩ := isOf hZ13 e22 f23
    obtain ⟨_, _, ⟨T25, L25, k25, n25⟩, -, X25, ⟨Lc25, hQ25, l25, y25, z25⟩, st25⟩ := X22.virtualBack hx (y := own_m25) (z := own_m25) hown13 (mvT hZ13 (wh hw 117 rfl)) (mvT hZ13 (wh hw 118 rfl)) (notFace_of_selects (args := #[]) (mvT hZ13 (wh hw 120 rfl))) (mvT hZ13 (wh hw 120 rfl)) (mvT hZ13 (wh hw 119 rfl)) (by decide) (backOf (W := 0) (own_eqSelf l Z a0 hw [] r_1 h13 n0 O14) hZ13 (wh hw 121 rfl) (wh hw 6 rfl) (by decide) (by decide)) qiv24a qiv24c (g := (mkF m 117 #[vI x0, vI x1, vI x2, vI x3, vI x4, vI x5, vR r_1, vR r_5, vR r_9, vR u1_, vR u2_, vR u3_, vR r_13, vI 1, uS, uS, uS] [.ref r_1, .ref r_1])) rfl (by rw [hml]; rfl) (Steps.refl _) (argsL := [.ref r_1]) (rest := []) (lenOf own_pd_26 rfl) rfl (by show 2 * 0 + _ ≤ _; exact Nat.le_of_eq rfl) (hb hby at_117) (fun _ _ => ⟨rfl, e22, (by decide : 47 + 0 ≤ _), (by decide : 300 + 0 ≤ _)⟩)
    dsimp only [Pt.U, Pt.locs, Pt.cells, Pt.slots] at X25 l25 y25 z25 st25 hQ25
    subst l25 y25 z25
    obtain ⟨Nc25, e25, rfl⟩ := hQ25
    have N25 := Fr.app N22 Nc25
    refine own_goS st25 ?_
    refine q_ifNo X25 hx hby at_120 ((if0 _ _).trans (feq (show ¬ ((1 : Int32) = (0 : Int32)) from by decide)).1) ?_
    refine q_iconst X25 hx hby at_123 ?_
    refine q_goto (pc := 124) X25 hx hby at_124 (pc' := 128) (by decide) (by decide) ?_
    refine q_istore X25 hx hby at_128 (l' := #[vI x0, vI x1, vI x2, vI x3, vI x4, vI x5, vR r_1, vR r_5, vR r_9, vR u1_, vR u2_, vR u3_, vR r_13, vI 1, uS, uS, uS]) rfl ?_
    refine q_iload X25 hx hby at_130 rfl ?_
    refine q_ifNo X25 hx hby at_132 ((if0 _ _).trans (feq (show ¬ ((1 : Int32) = (0 : Int32)) from by decide)).1) ?_
    refine q_aload X25 hx hby at_135 rfl rfl ?_
    obtain ⟨cqiv26, kqiv26, qiv26a, qiv26b, qiv26c⟩ := isOf hZ13 e25 c13_0
    obtain ⟨_, _, ⟨T27, L27, k27, n27⟩, -, X27, ⟨Lc27, hQ27, l27, y27, z27⟩, st27⟩ := X25.virtualBack hx (y := own_m35) (z := own_m35) hown13 (mvT hZ13 (wh hw 122 rfl)) (mvT hZ13 (wh hw 123 rfl)) (notFace_of_selects (args := #[]) (mvT hZ13 (wh hw 125 rfl))) (mvT hZ13 (wh hw 125 rfl)) (mvT hZ13 (wh hw 124 rfl)) (by decide) (backOf (W := 0) (own_caller l Z a0 hw [] r_13 r_5 h13 n0 O14 c13_3) hZ13 (wh hw 126 rfl) (wh hw 39 rfl) (by decide) (by decide)) qiv26a qiv26c (g := (mkF m 137 #[vI x0, vI x1, vI x2, vI x3, vI x4, vI x5, vR r_1, vR r_5, vR r_9, vR u1_, vR u2_, vR u3_, vR r_13, vI 1, uS, uS, uS] [.ref r_13])) rfl (by rw [hml]; rfl) (Steps.refl _) (argsL := []) (rest := []) (lenOf own_pd_33 rfl) rfl (by show 2 * 0 + _ ≤ _; exact Nat.le_of_eq rfl) (hb hby at_137) (fun _ _ => ⟨rfl, e25, (by decide : 47 + 0 ≤ _), (by decide : 300 + 0 ≤ _)⟩)
    dsimp only [Pt.U, Pt.locs, Pt.cells, Pt.slots] at X27 l27 y27 z27 st27 hQ27
    subst l27 y27 z27
    obtain ⟨Nc27, e27, rfl⟩ := hQ27
    have N27 := Fr.app N25 Nc27
    refine own_goS st27 ?_
    refine q_aload X27 hx hby at_140 rfl rfl ?_
    have f28 := (A1_.1.keep Kc13)
    obtain ⟨cqiv29, kqiv29, qiv29a, qiv29b, qiv29c⟩ := isOf hZ13 e27 f28
    obtain ⟨_, _, ⟨T30, L30, k30, n30⟩, -, X30, ⟨Lc30, hQ30, l30, y30, z30⟩, st30⟩ := X27.virtualBack hx (y := own_m25) (z := own_m25) hown13 (mvT hZ13 (wh hw 117 rfl)) (mvT hZ13 (wh hw 118 rfl)) (notFace_of_selects (args := #[]) (mvT hZ13 (wh hw 120 rfl))) (mvT hZ13 (wh hw 120 rfl)) (mvT hZ13 (wh hw 119 rfl)) (by decide) (backOf (W := 0) (own_eqSelf l Z a0 hw [] r_5 h13 n0 O14) hZ13 (wh hw 121 rfl) (wh hw 6 rfl) (by decide) (by decide)) qiv29a qiv29c (g := (mkF m 142 #[vI x0, vI x1, vI x2, vI x3, vI x4, vI x5, vR r_1, vR r_5, vR r_9, vR u1_, vR u2_, vR u3_, vR r_13, vI 1, uS, uS, uS] [.ref r_5, .ref r_5])) rfl (by rw [hml]; rfl) (Steps.refl _) (argsL := [.ref r_5]) (rest := []) (lenOf own_pd_26 rfl) rfl (by show 2 * 0 + _ ≤ _; exact Nat.le_of_eq rfl) (hb hby at_142) (fun _ _ => ⟨rfl, e27, (by decide : 47 + 0 ≤ _), (by decide : 300 + 0 ≤ _)⟩)
    dsimp only [Pt.U, Pt.locs, Pt.cells, Pt.slots] at X30 l30 y30 z30 st30 hQ30
    subst l30 y30 z30
    obtain ⟨Nc30, e30, rfl⟩ := hQ30
    have N30 := Fr.app N27 Nc30
    refine own_goS st30 ?_
    show own_Goes p e below (T30.setTop (mkF m 145 #[vI x0, vI x1, vI x2, vI x3, vI x4, vI x5, vR r_1, vR r_5, vR r_9, vR u1_, vR u2_, vR u3_, vR r_13, vI 1, uS, uS, uS] [.int 1])) _
    refine q_ifNo X30 hx hby at_145 ((if0 _ _).trans (feq (show ¬ ((1 : Int32) = (0 : Int32)) from by decide)).1) ?_
    refine q_iconst X30 hx hby at_148 ?_
    refine q_goto (pc := 149) X30 hx hby at_149 (pc' := 153) (by decide) (by decide) ?_
    refine q_istore X30 hx hby at_153 (l' := #[vI x0, vI x1, vI x2, vI x3, vI x4, vI x5, vR r_1, vR r_5, vR r_9, vR u1_, vR u2_, vR u3_, vR r_13, vI 1, uS, uS, uS]) rfl ?_
    refine q_iload X30 hx hby at_155 rfl ?_
    refine q_ifNo X30 hx hby at_157 ((if0 _ _).trans (feq (show ¬ ((1 : Int32) = (0 : Int32)) from by decide)).1) ?_
    refine q_aload X30 hx hby at_160 rfl rfl ?_
    obtain ⟨cqiv31, kqiv31, qiv31a, qiv31b, qiv31c⟩ := isOf hZ13 e30 c13_0
    obtain ⟨_, _, ⟨T32, L32, k32, n32⟩, -, X32, ⟨Lc32, hQ32, l32, y32, z32⟩, st32⟩ := X30.virtualBack hx (y := own_m36) (z := own_m36) hown13 (mvT hZ13 (wh hw 127 rfl)) (mvT hZ13 (wh hw 128 rfl)) (notFace_of_selects (args := #[]) (mvT hZ13 (wh hw 130 rfl))) (mvT hZ13 (wh hw 130 rfl)) (mvT hZ13 (wh hw 129 rfl)) (by decide) (backOf (W := 0) (own_operation l Z a0 hw [] r_13 r_9 h13 n0 O14 c13_4) hZ13 (wh hw 131 rfl) (wh hw 39 rfl) (by decide) (by decide)) qiv31a qiv31c (g := (mkF m 162 #[vI x0, vI x1, vI x2, vI x3, vI x4, vI x5, vR r_1, vR r_5, vR r_9, vR u1_, vR u2_, vR u3_, vR r_13, vI 1, uS, uS, uS] [.ref r_13])) rfl (by rw [hml]; rfl) (Steps.refl _) (argsL := []) (rest := []) (lenOf own_pd_33 rfl) rfl (by show 2 * 0 + _ ≤ _; exact Nat.le_of_eq rfl) (hb hby at_162) (fun _ _ => ⟨rfl, e30, (by decide : 47 + 0 ≤ _), (by decide : 300 + 0 ≤ _)⟩)
    dsimp only [Pt.U, Pt.locs, Pt.cells, Pt.slots] at X32 l32 y32 z32 st32 hQ32
    subst l32 y32 z32
    obtain ⟨Nc32, e32, rfl⟩ := hQ32
    have N32 := Fr.app N30 Nc32
    refine own_goS st32 ?_
    refine q_aload X32 hx hby at_165 rfl rfl ?_
    have f33 := (A2_.1.keep Kc13)
    obtain ⟨cqiv34, kqiv34, qiv34a, qiv34b, qiv34c⟩ := isOf hZ13 e32 f33
    obtain ⟨_, _, ⟨T35, L35, k35, n35⟩, -, X35, ⟨Lc35, hQ35, l35, y35, z35⟩, st35⟩ := X32.virtualBack hx (y := own_m25) (z := own_m25) hown13 (mvT hZ13 (wh hw 117 rfl)) (mvT hZ13 (wh hw 118 rfl)) (notFace_of_selects (args := #[]) (mvT hZ13 (wh hw 120 rfl))) (mvT hZ13 (wh hw 120 rfl)) (mvT hZ13 (wh hw 119 rfl)) (by decide) (backOf (W := 0) (own_eqSelf l Z a0 hw [] r_9 h13 n0 O14) hZ13 (wh hw 121 rfl) (wh hw 6 rfl) (by decide) (by decide)) qiv34a qiv34c (g := (mkF m 167 #[vI x0, vI x1, vI x2, vI x3, vI x4, vI x5, vR r_1, vR r_5, vR r_9, vR u1_, vR u2_, vR u3_, vR r_13, vI 1, uS, uS, uS] [.ref r_9, .ref r_9])) rfl (by rw [hml]; rfl) (Steps.refl _) (argsL := [.ref r_9]) (rest := []) (lenOf own_pd_26 rfl) rfl (by show 2 * 0 + _ ≤ _; exact Nat.le_of_eq rfl) (hb hby at_167) (fun _ _ => ⟨rfl, e32, (by decide : 47 + 0 ≤ _), (by decide : 300 + 0 ≤ _)⟩)
    dsimp only [Pt.U, Pt.locs, Pt.cells, Pt.slots] at X35 l35 y35 z35 st35 hQ35
    subst l35 y35 z35
    obtain ⟨Nc35, e35, rfl⟩ := hQ35
    have N35 := Fr.app N32 Nc35
    refine own_goS st35 ?_
    refine q_ifNo X35 hx hby at_170 ((if0 _ _).trans (feq (show ¬ ((1 : Int32) = (0 : Int32)) from by decide)).1) ?_
    refine q_iconst X35 hx hby at_173 ?_
    refine q_goto (pc := 174) X35 hx hby at_174 (pc' := 178) (by decide) (by decide) ?_
    refine q_istore X35 hx hby at_178 (l' := #[vI x0, vI x1, vI x2, vI x3, vI x4, vI x5, vR r_1, vR r_5, vR r_9, vR u1_, vR u2_, vR u3_, vR r_13, vI 1, uS, uS, uS]) rfl ?_
    show own_Goes p e below (T35.setTop (mkF m 180 #[vI x0, vI x1, vI x2, vI x3, vI x4, vI x5, vR r_1, vR r_5, vR r_9, vR u1_, vR u2_, vR u3_, vR r_13, vI 1, uS, uS, uS] [])) _
    refine q_aload X35 hx hby at_180 rfl rfl ?_
    refine q_aload X35 hx hby at_182 rfl rfl ?_
    refine q_aload X35 hx hby at_184 rfl rfl ?_
    have f36 := (B1_.keep Kc13 nin0 nin0)
    have f37 := (B2_.keep Kc13 nin0 nin0)
    have f38 := (B3_.keep Kc13 nin0 nin0)
    obtain ⟨_, _, ⟨T39, L39, k39, n39⟩, -, X39, hS39, gr39, ⟨Lc39, hQ39, l39, y39, z39, cs39⟩, st39⟩ := Jvm.RoadKit.callSS X35 hx (y := own_m30) hown13 (mvT hZ13 (wh hw 37 rfl)) (mvT hZ13 (wh hw 38 rfl)) (mvT hZ13 (wh hw 39 rfl)) (mvT hZ13 (wh hw 40 rfl)) (by decide) (backOfSH (W := 0) (own_of l Z a0 hw [] u1_ v1_ d1_ u2_ v2_ d2_ u3_ v3_ d3_ h13 n0 O14 gz gfm gwC gwM G f36 (show own_Ok d1_ from K1_) f37 (show own_Ok d2_ from K2_) f38 (show own_Ok d3_ from K3_)) hZ13 (wh hw 40 rfl) (wh hw 39 rfl) (by decide) (by decide) (own_EW hw) CR16.1) (g := (mkF m 186 #[vI x0, vI x1, vI x2, vI x3, vI x4, vI x5, vR r_1, vR r_5, vR r_9, vR u1_, vR u2_, vR u3_, vR r_13, vI 1, uS, uS, uS] [.ref u3_, .ref u2_, .ref u1_])) rfl (by rw [hml]; rfl) (argsL := [.ref u1_, .ref u2_, .ref u3_]) (rest := []) (lenOf own_pd_29 rfl) rfl (by show 2 * 0 + _ ≤ _; exact Nat.le_of_eq rfl) (hb hby at_186) (fun _ _ => ⟨rfl, e35, (by decide : 47 + 7 ≤ _), (by decide : 300 + 100 ≤ _)⟩)
    dsimp only [Pt.U, Pt.locs, Pt.cells, Pt.slots] at X39 l39 y39 z39 st39 hQ39 hS39 gr39 cs39
    subst l39 y39 z39
    obtain ⟨h39, e39⟩ : ∃ z, T39.heap = z := ⟨_, rfl⟩
    rw [e39] at hQ39 hS39 gr39 cs39
    obtain ⟨Nc39, Kc39, r_39, rfl, c39_0, c39_1, c39_2, c39_3, c39_4, c39_5⟩ := hQ39
    obtain ⟨X39, hS39, hZ39, hown39⟩ := rebS (own := "com/example/circa_once/circaonce/model/ScopeOfPinLaw") hS13 (show _ ≤ T35.heap.size by rw [e35]; exact hk13) X39 hS39 gr39 hZ13 hown13
    have hk39 : h39.size ≤ h39.size := Nat.le_refl _
    have N39 := Fr.app N35 Nc39
    have O40 := O14.keep Kc39 all0
    have sz41 : h13.size ≤ h39.size := Kc39.1
    have CR42 := CHr.trans CR16 cs39
    have ltc39_0 : @LT.lt Nat _ r_39 h39.size := c39_0.lt
    refine own_goS st39 ?_
    refine q_astore X39 hx hby at_189 rfl (l' := #[vI x0, vI x1, vI x2, vI x3, vI x4, vI x5, vR r_1, vR r_5, vR r_9, vR u1_, vR u2_, vR u3_, vR r_13, vI 1, vR r_39, uS, uS]) rfl ?_
    refine q_aload X39 hx hby at_191 rfl rfl ?_
    refine q_aload X39 hx hby at_193 rfl rfl ?_
    have f43 := ((A0_.keep Kc13 nin0 nin0).keep Kc39 nin0 nin0)
    have f44 := (f36.keep Kc39 nin0 nin0)
    obtain ⟨Eaq45, Vaq45, kbaq45, cdaq45, Naq45, vsaq45, Caq45, Aaq45, caq45, baq45, laq45⟩ := id f43
    obtain ⟨Ebq45, Vbq45, kbbq45, cdbq45, Nbq45, vsbq45, Cbq45, Abq45, cbq45, bbq45, lbq45⟩ := id f44
    have Szq45 := G0.ext O40.2
    obtain ⟨cqq45, kqq45, qq45a, qq45b, qq45c⟩ := isOf hZ39 e39 Eaq45
    obtain ⟨v46, _, ⟨T46, L46, k46, n46⟩, -, X46, ⟨Lc46, hQ46, l46, y46, z46⟩, st46⟩ := X39.virtualBack hx (y := own_m25) (z := own_m25) hown39 (mvT hZ39 (wh hw 117 rfl)) (mvT hZ39 (wh hw 118 rfl)) (notFace_of_selects (args := #[]) (mvT hZ39 (wh hw 120 rfl))) (mvT hZ39 (wh hw 120 rfl)) (mvT hZ39 (wh hw 119 rfl)) (by decide) (StrChars.Road.eqW (W := 0) hZ39 (own_wEq hw) (kI := 4) (wh hw 5 rfl) Eaq45 Vaq45 Caq45 Aaq45 caq45 baq45 laq45 Ebq45 Vbq45 Cbq45 Abq45 cbq45 bbq45 lbq45 Szq45 G1 (by decide) (by decide)) qq45a qq45c (g := (mkF m 195 #[vI x0, vI x1, vI x2, vI x3, vI x4, vI x5, vR r_1, vR r_5, vR r_9, vR u1_, vR u2_, vR u3_, vR r_13, vI 1, vR r_39, uS, uS] [.ref u1_, .ref r_1])) rfl (by rw [hml]; rfl) (Steps.refl _) (argsL := [.ref u1_]) (rest := []) (lenOf own_pd_26 rfl) rfl (by show 2 * 0 + _ ≤ _; exact Nat.le_of_eq rfl) (hb hby at_195) (fun _ _ => ⟨rfl, e39, (by decide : 54 + 0 ≤ _), (by decide : 400 + 0 ≤ _)⟩)
    dsimp only [Pt.U, Pt.locs, Pt.cells, Pt.slots] at X46 l46 y46 z46 st46 hQ46
    subst l46 y46 z46
    obtain ⟨hv46, rfl, e46⟩ := hQ46
    have N46 := Fr.app N39 (Fr.nil n0)
    rcases hv46 with ⟨rfl, hq46⟩ | ⟨rfl, hq46⟩
    · refine own_goS st46 ?_
      refine q_ifNo X46 hx hby at_198 ((if0 _ _).trans (feq (show ¬ ((1 : Int32) = (0 : Int32)) from by decide)).1) ?_
      refine q_aload X46 hx hby at_201 rfl rfl ?_
      refine q_aload X46 hx hby at_203 rfl rfl ?_
      have f47 := ((A1_.keep Kc13 nin0 nin0).keep Kc39 nin0 nin0)
      have f48 := (f37.keep Kc39 nin0 nin0)
      obtain ⟨Eaq49, Vaq49, kbaq49, cdaq49, Naq49, vsaq49, Caq49, Aaq49, caq49, baq49, laq49⟩ := id f47
      obtain ⟨Ebq49, Vbq49, kbbq49, cdbq49, Nbq49, vsbq49, Cbq49, Abq49, cbq49, bbq49, lbq49⟩ := id f48
      have Szq49 := G0.ext O40.2
      obtain ⟨cqq49, kqq49, qq49a, qq49b, qq49c⟩ := isOf hZ39 e46 Eaq49
      obtain ⟨v50, _, ⟨T50, L50, k50, n50⟩, -, X50, ⟨Lc50, hQ50, l50, y50, z50⟩, st50⟩ := X46.virtualBack hx (y := own_m25) (z := own_m25) hown39 (mvT hZ39 (wh hw 117 rfl)) (mvT hZ39 (wh hw 118 rfl)) (notFace_of_selects (args := #[]) (mvT hZ39 (wh hw 120 rfl))) (mvT hZ39 (wh hw 120 rfl)) (mvT hZ39 (wh hw 119 rfl)) (by decide) (StrChars.Road.eqW (W := 0) hZ39 (own_wEq hw) (kI := 4) (wh hw 5 rfl) Eaq49 Vaq49 Caq49 Aaq49 caq49 baq49 laq49 Ebq49 Vbq49 Cbq49 Abq49 cbq49 bbq49 lbq49 Szq49 G1 (by decide) (by decide)) qq49a qq49c (g := (mkF m 205 #[vI x0, vI x1, vI x2, vI x3, vI x4, vI x5, vR r_1, vR r_5, vR r_9, vR u1_, vR u2_, vR u3_, vR r_13, vI 1, vR r_39, uS, uS] [.ref u2_, .ref r_5])) rfl (by rw [hml]; rfl) (Steps.refl _) (argsL := [.ref u2_]) (rest := []) (lenOf own_pd_26 rfl) rfl (by show 2 * 0 + _ ≤ _; exact Nat.le_of_eq rfl) (hb hby at_205) (fun _ _ => ⟨rfl, e46, (by decide : 54 + 0 ≤ _), (by decide : 400 + 0 ≤ _)⟩)
      dsimp only [Pt.U, Pt.locs, Pt.cells, Pt.slots] at X50 l50 y50 z50 st50 hQ50
      subst l50 y50 z50
      obtain ⟨hv50, rfl, e50⟩ := hQ50
      have N50 := Fr.app N46 (Fr.nil n0)
      rcases hv50 with ⟨rfl, hq50⟩ | ⟨rfl, hq50⟩
      · refine own_goS st50 ?_
        refine q_ifNo X50 hx hby at_208 ((if0 _ _).trans (feq (show ¬ ((1 : Int32) = (0 : Int32)) from by decide)).1) ?_
        refine q_aload X50 hx hby at_211 rfl rfl ?_
        show own_Goes p e below (T50.setTop (mkF m 213 #[vI x0, vI x1, vI x2, vI x3, vI x4, vI x5, vR r_1, vR r_5, vR r_9, vR u1_, vR u2_, vR u3_, vR r_13, vI 1, vR r_39, uS, uS] [.ref r_9])) _
        refine q_aload X50 hx hby at_213 rfl rfl ?_
        have f51 := ((A2_.keep Kc13 nin0 nin0).keep Kc39 nin0 nin0)
        have f52 := (f38.keep Kc39 nin0 nin0)
        obtain ⟨Eaq53, Vaq53, kbaq53, cdaq53, Naq53, vsaq53, Caq53, Aaq53, caq53, baq53, laq53⟩ := id f51
        obtain ⟨Ebq53, Vbq53, kbbq53, cdbq53, Nbq53, vsbq53, Cbq53, Abq53, cbq53, bbq53, lbq53⟩ := id f52
        have Szq53 := G0.ext O40.2
        obtain ⟨cqq53, kqq53, qq53a, qq53b, qq53c⟩ := isOf hZ39 e50 Eaq53
        obtain ⟨v54, _, ⟨T54, L54, k54, n54⟩, -, X54, ⟨Lc54, hQ54, l54, y54, z54⟩, st54⟩ := X50.virtualBack hx (y := own_m25) (z := own_m25) hown39 (mvT hZ39 (wh hw 117 rfl)) (mvT hZ39 (wh hw 118 rfl)) (notFace_of_selects (args := #[]) (mvT hZ39 (wh hw 120 rfl))) (mvT hZ39 (wh hw 120 rfl)) (mvT hZ39 (wh hw 119 rfl)) (by decide) (StrChars.Road.eqW (W := 0) hZ39 (own_wEq hw) (kI := 4) (wh hw 5 rfl) Eaq53 Vaq53 Caq53 Aaq53 caq53 baq53 laq53 Ebq53 Vbq53 Cbq53 Abq53 cbq53 bbq53 lbq53 Szq53 G1 (by decide) (by decide)) qq53a qq53c (g := (mkF m 215 #[vI x0, vI x1, vI x2, vI x3, vI x4, vI x5, vR r_1, vR r_5, vR r_9, vR u1_, vR u2_, vR u3_, vR r_13, vI 1, vR r_39, uS, uS] [.ref u3_, .ref r_9])) rfl (by rw [hml]; rfl) (Steps.refl _) (argsL := [.ref u3_]) (rest := []) (lenOf own_pd_26 rfl) rfl (by show 2 * 0 + _ ≤ _; exact Nat.le_of_eq rfl) (hb hby at_215) (fun _ _ => ⟨rfl, e50, (by decide : 54 + 0 ≤ _), (by decide : 400 + 0 ≤ _)⟩)
        dsimp only [Pt.U, Pt.locs, Pt.cells, Pt.slots] at X54 l54 y54 z54 st54 hQ54
        subst l54 y54 z54
        obtain ⟨hv54, rfl, e54⟩ := hQ54
        have N54 := Fr.app N50 (Fr.nil n0)
        rcases hv54 with ⟨rfl, hq54⟩ | ⟨rfl, hq54⟩
        · refine own_goS st54 ?_
          refine q_ifNo X54 hx hby at_218 ((if0 _ _).trans (feq (show ¬ ((1 : Int32) = (0 : Int32)) from by decide)).1) ?_
          refine q_iconst X54 hx hby at_221 ?_
          refine q_goto (pc := 222) X54 hx hby at_222 (pc' := 226) (by decide) (by decide) ?_
          refine q_istore X54 hx hby at_226 (l' := #[vI x0, vI x1, vI x2, vI x3, vI x4, vI x5, vR r_1, vR r_5, vR r_9, vR u1_, vR u2_, vR u3_, vR r_13, vI 1, vR r_39, vI 1, uS]) rfl ?_
          refine q_iload X54 hx hby at_228 rfl ?_
          refine q_ifNo X54 hx hby at_230 ((if0 _ _).trans (feq (show ¬ ((1 : Int32) = (0 : Int32)) from by decide)).1) ?_
          refine q_aload X54 hx hby at_233 rfl rfl ?_
          refine q_aload X54 hx hby at_235 rfl rfl ?_
          have f55 := (c13_1.keep Kc39 nin0)
          have f56 := (c13_2.keep Kc39 nin0)
          have f57 := (c13_3.keep Kc39 nin0)
          have f58 := (c13_4.keep Kc39 nin0)
          have f59 := (f23.keep Kc39)
          have f60 := (f28.keep Kc39)
          have f61 := (f33.keep Kc39)
          have f62 := (c13_0.keep Kc39)
          obtain ⟨cqiv63, kqiv63, qiv63a, qiv63b, qiv63c⟩ := isOf hZ39 e54 f62
          obtain ⟨_, _, ⟨T64, L64, k64, n64⟩, -, X64, ⟨Lc64, hQ64, l64, y64, z64⟩, st64⟩ := X54.virtualBack hx (y := own_m37) (z := own_m37) hown39 (mvT hZ39 (wh hw 136 rfl)) (mvT hZ39 (wh hw 137 rfl)) (notFace_of_selects (args := #[]) (mvT hZ39 (wh hw 139 rfl))) (mvT hZ39 (wh hw 139 rfl)) (mvT hZ39 (wh hw 138 rfl)) (by decide) (backOf (W := 0) (own_scEq l Z a0 hw [] r_13 r_39 r_1 rb_1 cs_1 r_5 rb_5 cs_5 r_9 rb_9 cs_9 u1_ v1_ d1_ u2_ v2_ d2_ u3_ v3_ d3_ h39 n0 O40 gz gfm gwC gwM G f55 f56 f57 f58 f59 f60 f61 c39_0 c39_1 c39_2 c39_3 c39_4 f43 f47 f51 f44 f48 f52) hZ39 (wh hw 140 rfl) (wh hw 39 rfl) (by decide) (by decide)) qiv63a qiv63c (g := (mkF m 237 #[vI x0, vI x1, vI x2, vI x3, vI x4, vI x5, vR r_1, vR r_5, vR r_9, vR u1_, vR u2_, vR u3_, vR r_13, vI 1, vR r_39, vI 1, uS] [.ref r_39, .ref r_13])) rfl (by rw [hml]; rfl) (Steps.refl _) (argsL := [.ref r_39]) (rest := []) (lenOf own_pd_26 rfl) rfl (by show 2 * 0 + _ ≤ _; exact Nat.le_of_eq rfl) (hb hby at_237) (fun _ _ => ⟨rfl, e54, (by decide : 54 + 0 ≤ _), (by decide : 400 + 0 ≤ _)⟩)
          dsimp only [Pt.U, Pt.locs, Pt.cells, Pt.slots] at X64 l64 y64 z64 st64 hQ64
          subst l64 y64 z64
          obtain ⟨Nc64, e64, r_64, rfl, c64_0⟩ := hQ64
          have N64 := Fr.app N54 Nc64
          refine own_goS st64 ?_
          rcases c64_0 with ⟨rfl, hs1, hs2, hs3⟩ | ⟨rfl, hsN⟩
          · show own_Goes p e below (T64.setTop (mkF m 240 #[vI x0, vI x1, vI x2, vI x3, vI x4, vI x5, vR r_1, vR r_5, vR r_9, vR u1_, vR u2_, vR u3_, vR r_13, vI 1, vR r_39, vI 1, uS] [.int 1])) _
            refine q_iload X64 hx hby at_240 rfl ?_
            refine q_icmpNo X64 hx hby at_242 (teq (show ((1 : Int32) = (1 : Int32)) from by decide)).2 ?_
            refine q_iconst X64 hx hby at_245 ?_
            refine q_goto (pc := 246) X64 hx hby at_246 (pc' := 250) (by decide) (by decide) ?_
            refine q_istore X64 hx hby at_250 (l' := #[vI x0, vI x1, vI x2, vI x3, vI x4, vI x5, vR r_1, vR r_5, vR r_9, vR u1_, vR u2_, vR u3_, vR r_13, vI 1, vR r_39, vI 1, uS]) rfl ?_
            refine q_aload X64 hx hby at_252 rfl rfl ?_
            obtain ⟨_, _, ⟨T65, L65, k65, n65⟩, -, X65, hS65, gr65, ⟨Lc65, hQ65, l65, y65, z65, cs65⟩, st65⟩ := Jvm.RoadKit.callSS X64 hx (y := own_m39) hown39 (mvT hZ39 (wh hw 143 rfl)) (mvT hZ39 (wh hw 144 rfl)) (mvT hZ39 (wh hw 39 rfl)) (mvT hZ39 (wh hw 145 rfl)) (by decide) (backOfSH (W := 0) (own_ofC l Z a0 hw [] r_5 rb_5 cs_5 h39 n0 O40 gz gfm gwC gwM G f47 (show own_Ok cs_5 from c5_1)) hZ39 (wh hw 145 rfl) (wh hw 39 rfl) (by decide) (by decide) (own_EW hw) CR42.1) (g := (mkF m 254 #[vI x0, vI x1, vI x2, vI x3, vI x4, vI x5, vR r_1, vR r_5, vR r_9, vR u1_, vR u2_, vR u3_, vR r_13, vI 1, vR r_39, vI 1, uS] [.ref r_5])) rfl (by rw [hml]; rfl) (argsL := [.ref r_5]) (rest := []) (lenOf own_pd_38 rfl) rfl (by show 2 * 0 + _ ≤ _; exact Nat.le_of_eq rfl) (hb hby at_254) (fun _ _ => ⟨rfl, e64, (by decide : 54 + 7 ≤ _), (by decide : 400 + 48 ≤ _)⟩)
            dsimp only [Pt.U, Pt.locs, Pt.cells, Pt.slots] at X65 l65 y65 z65 st65 hQ65 hS65 gr65 cs65
            subst l65 y65 z65
            obtain ⟨h65, e65⟩ : ∃ z, T65.heap = z := ⟨_, rfl⟩
            rw [e65] at hQ65 hS65 gr65 cs65
            obtain ⟨Nc65, Kc65, r_65, rfl, c65_0, c65_1, c65_2⟩ := hQ65
            obtain ⟨X65, hS65, hZ65, hown65⟩ := rebS (own := "com/example/circa_once/circaonce/model/ScopeOfPinLaw") hS39 (show _ ≤ T64.heap.size by rw [e64]; exact hk39) X65 hS65 gr65 hZ39 hown39
            have hk65 : h65.size ≤ h65.size := Nat.le_refl _
            have N65 := Fr.app N64 Nc65
            have O66 := O40.keep Kc65 all0
            have sz67 : h39.size ≤ h65.size := Kc65.1
            have CR68 := CHr.trans CR42 cs65
            have ltc65_0 : @LT.lt Nat _ r_65 h65.size := c65_0.lt
            refine own_goS st65 ?_
            refine q_astore X65 hx hby at_257 rfl (l' := #[vI x0, vI x1, vI x2, vI x3, vI x4, vI x5, vR r_1, vR r_5, vR r_9, vR u1_, vR u2_, vR u3_, vR r_13, vI 1, vR r_39, vI 1, vR r_65]) rfl ?_
            refine q_iload X65 hx hby at_259 rfl ?_
            refine q_ifNo X65 hx hby at_261 ((if0 _ _).trans (feq (show ¬ ((1 : Int32) = (0 : Int32)) from by decide)).1) ?_
            refine q_aload X65 hx hby at_264 rfl rfl ?_
            refine q_aload X65 hx hby at_266 rfl rfl ?_
            have f69 := (f55.keep Kc65 nin0)
            have f70 := (f62.keep Kc65)
            obtain ⟨cqiv71, kqiv71, qiv71a, qiv71b, qiv71c⟩ := isOf hZ65 e65 f70
            obtain ⟨_, _, ⟨T72, L72, k72, n72⟩, -, X72, ⟨Lc72, hQ72, l72, y72, z72⟩, st72⟩ := X65.virtualBack hx (y := own_m37) (z := own_m37) hown65 (mvT hZ65 (wh hw 136 rfl)) (mvT hZ65 (wh hw 137 rfl)) (notFace_of_selects (args := #[]) (mvT hZ65 (wh hw 139 rfl))) (mvT hZ65 (wh hw 139 rfl)) (mvT hZ65 (wh hw 138 rfl)) (by decide) (backOf (W := 0) (own_scNe l Z a0 hw [] r_13 r_65 h65 n0 O66 gz gfm gwC gwM G f69 c65_0 c65_1) hZ65 (wh hw 140 rfl) (wh hw 39 rfl) (by decide) (by decide)) qiv71a qiv71c (g := (mkF m 268 #[vI x0, vI x1, vI x2, vI x3, vI x4, vI x5, vR r_1, vR r_5, vR r_9, vR u1_, vR u2_, vR u3_, vR r_13, vI 1, vR r_39, vI 1, vR r_65] [.ref r_65, .ref r_13])) rfl (by rw [hml]; rfl) (Steps.refl _) (argsL := [.ref r_65]) (rest := []) (lenOf own_pd_26 rfl) rfl (by show 2 * 0 + _ ≤ _; exact Nat.le_of_eq rfl) (hb hby at_268) (fun _ _ => ⟨rfl, e65, (by decide : 61 + 0 ≤ _), (by decide : 448 + 0 ≤ _)⟩)
            dsimp only [Pt.U, Pt.locs, Pt.cells, Pt.slots] at X72 l72 y72 z72 st72 hQ72
            subst l72 y72 z72
            obtain ⟨Nc72, e72, rfl⟩ := hQ72
            have N72 := Fr.app N65 Nc72
            refine own_goS st72 ?_
            refine q_ifNo X72 hx hby at_271 ((if0 _ _).trans (teq (show ((0 : Int32) = (0 : Int32)) from by decide)).2) ?_
            show own_Goes p e below (T72.setTop (mkF m 274 #[vI x0, vI x1, vI x2, vI x3, vI x4, vI x5, vR r_1, vR r_5, vR r_9, vR u1_, vR u2_, vR u3_, vR r_13, vI 1, vR r_39, vI 1, vR r_65] [])) _
            refine q_iconst X72 hx hby at_274 ?_
            refine q_goto (pc := 275) X72 hx hby at_275 (pc' := 279) (by decide) (by decide) ?_
            refine q_istore X72 hx hby at_279 (l' := #[vI x0, vI x1, vI x2, vI x3, vI x4, vI x5, vR r_1, vR r_5, vR r_9, vR u1_, vR u2_, vR u3_, vR r_13, vI 1, vR r_39, vI 1, vR r_65]) rfl ?_
            refine q_iload X72 hx hby at_281 rfl ?_
            refine own_endH X72 hS65 (show _ ≤ T72.heap.size by rw [e72]; exact hk65) e72 hh CR68 hZ65 (own_EW hw) (v := (some (.int 1))) (fun h => by rw [hret] at h; cases h) hlk (by decide) (by decide) ?_ (fun fs hr => retOut X72 hx hret rfl (Or.inl ⟨rfl, Or.inr (Or.inl rfl), _, rfl⟩) (hb hby at_283) hr)
            show Q_rm0 Z x0 x1 x2 x3 x4 x5 gz gfm gwC gwM h0 n0 _ T72.heap _
            rw [e72]
            exact ⟨N72, trivial, rfl⟩
          · exact absurd ⟨hq46, hq50, hq54⟩ hsN
        · refine own_goS st54 ?_
          refine q_ifYes (pc := 218) X54 hx hby at_218 (pc' := 225) ((if0 _ _).trans (teq (show ((0 : Int32) = (0 : Int32)) from by decide)).1) (by decide) (by decide) ?_
          refine q_iconst X54 hx hby at_225 ?_
          refine q_istore X54 hx hby at_226 (l' := #[vI x0, vI x1, vI x2, vI x3, vI x4, vI x5, vR r_1, vR r_5, vR r_9, vR u1_, vR u2_, vR u3_, vR r_13, vI 1, vR r_39, vI 0, uS]) rfl ?_
          refine q_iload X54 hx hby at_228 rfl ?_
          refine q_ifNo X54 hx hby at_230 ((if0 _ _).trans (feq (show ¬ ((1 : Int32) = (0 : Int32)) from by decide)).1) ?_
          refine q_aload X54 hx hby at_233 rfl rfl ?_
          refine q_aload X54 hx hby at_235 rfl rfl ?_
          have f73 := (c13_1.keep Kc39 nin0)
          have f74 := (c13_2.keep Kc39 nin0)
          have f75 := (c13_3.keep Kc39 nin0)
          have f76 := (c13_4.keep Kc39 nin0)
          have f77 := (f23.keep Kc39)
          have f78 := (f28.keep Kc39)
          have f79 := (f33.keep Kc39)
          have f80 := (c13_0.keep Kc39)
          obtain ⟨cqiv81, kqiv81, qiv81a, qiv81b, qiv81c⟩ := isOf hZ39 e54 f80
          obtain ⟨_, _, ⟨T82, L82, k82, n82⟩, -, X82, ⟨Lc82, hQ82, l82, y82, z82⟩, st82⟩ := X54.virtualBack hx (y := own_m37) (z := own_m37) hown39 (mvT hZ39 (wh hw 136 rfl)) (mvT hZ39 (wh hw 137 rfl)) (notFace_of_selects (args := #[]) (mvT hZ39 (wh hw 139 rfl))) (mvT hZ39 (wh hw 139 rfl)) (mvT hZ39 (wh hw 138 rfl)) (by decide) (backOf (W := 0) (own_scEq l Z a0 hw [] r_13 r_39 r_1 rb_1 cs_1 r_5 rb_5 cs_5 r_9 rb_9 cs_9 u1_ v1_ d1_ u2_ v2_ d2_ u3_ v3_ d3_ h39 n0 O40 gz gfm gwC gwM G f73 f74 f75 f76 f77 f78 f79 c39_0 c39_1 c39_2 c39_3 c39_4 f43 f47 f51 f44 f48 f52) hZ39 (wh hw 140 rfl) (wh hw 39 rfl) (by decide) (by decide)) qiv81a qiv81c (g := (mkF m 237 #[vI x0, vI x1, vI x2, vI x3, vI x4, vI x5, vR r_1, vR r_5, vR r_9, vR u1_, vR u2_, vR u3_, vR r_13, vI 1, vR r_39, vI 0, uS] [.ref r_39, .ref r_13])) rfl (by rw [hml]; rfl) (Steps.refl _) (argsL := [.ref r_39]) (rest := []) (lenOf own_pd_26 rfl) rfl (by show 2 * 0 + _ ≤ _; exact Nat.le_of_eq rfl) (hb hby at_237) (fun _ _ => ⟨rfl, e54, (by decide : 54 + 0 ≤ _), (by decide : 400 + 0 ≤ _)⟩)
          dsimp only [Pt.U, Pt.locs, Pt.cells, Pt.slots] at X82 l82 y82 z82 st82 hQ82
          subst l82 y82 z82
          obtain ⟨Nc82, e82, r_82, rfl, c82_0⟩ := hQ82
          have N82 := Fr.app N54 Nc82
          refine own_goS st82 ?_
          rcases c82_0 with ⟨rfl, hs1, hs2, hs3⟩ | ⟨rfl, hsN⟩
          · exact absurd hs3 hq54
          · show own_Goes p e below (T82.setTop (mkF m 240 #[vI x0, vI x1, vI x2, vI x3, vI x4, vI x5, vR r_1, vR r_5, vR r_9, vR u1_, vR u2_, vR u3_, vR r_13, vI 1, vR r_39, vI 0, uS] [.int 0])) _
            refine q_iload X82 hx hby at_240 rfl ?_
            refine q_icmpNo X82 hx hby at_242 (teq (show ((0 : Int32) = (0 : Int32)) from by decide)).2 ?_
            refine q_iconst X82 hx hby at_245 ?_
            refine q_goto (pc := 246) X82 hx hby at_246 (pc' := 250) (by decide) (by decide) ?_
            refine q_istore X82 hx hby at_250 (l' := #[vI x0, vI x1, vI x2, vI x3, vI x4, vI x5, vR r_1, vR r_5, vR r_9, vR u1_, vR u2_, vR u3_, vR r_13, vI 1, vR r_39, vI 0, uS]) rfl ?_
            refine q_aload X82 hx hby at_252 rfl rfl ?_
            obtain ⟨_, _, ⟨T83, L83, k83, n83⟩, -, X83, hS83, gr83, ⟨Lc83, hQ83, l83, y83, z83, cs83⟩, st83⟩ := Jvm.RoadKit.callSS X82 hx (y := own_m39) hown39 (mvT hZ39 (wh hw 143 rfl)) (mvT hZ39 (wh hw 144 rfl)) (mvT hZ39 (wh hw 39 rfl)) (mvT hZ39 (wh hw 145 rfl)) (by decide) (backOfSH (W := 0) (own_ofC l Z a0 hw [] r_5 rb_5 cs_5 h39 n0 O40 gz gfm gwC gwM G f47 (show own_Ok cs_5 from c5_1)) hZ39 (wh hw 145 rfl) (wh hw 39 rfl) (by decide) (by decide) (own_EW hw) CR42.1) (g := (mkF m 254 #[vI x0, vI x1, vI x2, vI x3, vI x4, vI x5, vR r_1, vR r_5, vR r_9, vR u1_, vR u2_, vR u3_, vR r_13, vI 1, vR r_39, vI 0, uS] [.ref r_5])) rfl (by rw [hml]; rfl) (argsL := [.ref r_5]) (rest := []) (lenOf own_pd_38 rfl) rfl (by show 2 * 0 + _ ≤ _; exact Nat.le_of_eq rfl) (hb hby at_254) (fun _ _ => ⟨rfl, e82, (by decide : 54 + 7 ≤ _), (by decide : 400 + 48 ≤ _)⟩)
            dsimp only [Pt.U, Pt.locs, Pt.cells, Pt.slots] at X83 l83 y83 z83 st83 hQ83 hS83 gr83 cs83
            subst l83 y83 z83
            obtain ⟨h83, e83⟩ : ∃ z, T83.heap = z := ⟨_, rfl⟩
            rw [e83] at hQ83 hS83 gr83 cs83
            obtain ⟨Nc83, Kc83, r_83, rfl, c83_0, c83_1, c83_2⟩ := hQ83
            obtain ⟨X83, hS83, hZ83, hown83⟩ := rebS (own := "com/example/circa_once/circaonce/model/ScopeOfPinLaw") hS39 (show _ ≤ T82.heap.size by rw [e82]; exact hk39) X83 hS83 gr83 hZ39 hown39
            have hk83 : h83.size ≤ h83.size := Nat.le_refl _
            have N83 := Fr.app N82 Nc83
            have O84 := O40.keep Kc83 all0
            have sz85 : h39.size ≤ h83.size := Kc83.1
            have CR86 := CHr.trans CR42 cs83
            have ltc83_0 : @LT.lt Nat _ r_83 h83.size := c83_0.lt
            refine own_goS st83 ?_
            refine q_astore X83 hx hby at_257 rfl (l' := #[vI x0, vI x1, vI x2, vI x3, vI x4, vI x5, vR r_1, vR r_5, vR r_9, vR u1_, vR u2_, vR u3_, vR r_13, vI 1, vR r_39, vI 0, vR r_83]) rfl ?_
            refine q_iload X83 hx hby at_259 rfl ?_
            refine q_ifNo X83 hx hby at_261 ((if0 _ _).trans (feq (show ¬ ((1 : Int32) = (0 : Int32)) from by decide)).1) ?_
            refine q_aload X83 hx hby at_264 rfl rfl ?_
            refine q_aload X83 hx hby at_266 rfl rfl ?_
            have f87 := (f73.keep Kc83 nin0)
            have f88 := (f80.keep Kc83)
            obtain ⟨cqiv89, kqiv89, qiv89a, qiv89b, qiv89c⟩ := isOf hZ83 e83 f88
            obtain ⟨_, _, ⟨T90, L90, k90, n90⟩, -, X90, ⟨Lc90, hQ90, l90, y90, z90⟩, st90⟩ := X83.virtualBack hx (y := own_m37) (z := own_m37) hown83 (mvT hZ83 (wh hw 136 rfl)) (mvT hZ83 (wh hw 137 rfl)) (notFace_of_selects (args := #[]) (mvT hZ83 (wh hw 139 rfl))) (mvT hZ83 (wh hw 139 rfl)) (mvT hZ83 (wh hw 138 rfl)) (by decide) (backOf (W := 0) (own_scNe l Z a0 hw [] r_13 r_83 h83 n0 O84 gz gfm gwC gwM G f87 c83_0 c83_1) hZ83 (wh hw 140 rfl) (wh hw 39 rfl) (by decide) (by decide)) qiv89a qiv89c (g := (mkF m 268 #[vI x0, vI x1, vI x2, vI x3, vI x4, vI x5, vR r_1, vR r_5, vR r_9, vR u1_, vR u2_, vR u3_, vR r_13, vI 1, vR r_39, vI 0, vR r_83] [.ref r_83, .ref r_13])) rfl (by rw [hml]; rfl) (Steps.refl _) (argsL := [.ref r_83]) (rest := []) (lenOf own_pd_26 rfl) rfl (by show 2 * 0 + _ ≤ _; exact Nat.le_of_eq rfl) (hb hby at_268) (fun _ _ => ⟨rfl, e83, (by decide : 61 + 0 ≤ _), (by decide : 448 + 0 ≤ _)⟩)
            dsimp only [Pt.U, Pt.locs, Pt.cells, Pt.slots] at X90 l90 y90 z90 st90 hQ90
            subst l90 y90 z90
            obtain ⟨Nc90, e90, rfl⟩ := hQ90
            have N90 := Fr.app N83 Nc90
            refine own_goS st90 ?_
            refine q_ifNo X90 hx hby at_271 ((if0 _ _).trans (teq (show ((0 : Int32) = (0 : Int32)) from by decide)).2) ?_
            show own_Goes p e below (T90.setTop (mkF m 274 #[vI x0, vI x1, vI x2, vI x3, vI x4, vI x5, vR r_1, vR r_5, vR r_9, vR u1_, vR u2_, vR u3_, vR r_13, vI 1, vR r_39, vI 0, vR r_83] [])) _
            refine q_iconst X90 hx hby at_274 ?_
            refine q_goto (pc := 275) X90 hx hby at_275 (pc' := 279) (by decide) (by decide) ?_
            refine q_istore X90 hx hby at_279 (l' := #[vI x0, vI x1, vI x2, vI x3, vI x4, vI x5, vR r_1, vR r_5, vR r_9, vR u1_, vR u2_, vR u3_, vR r_13, vI 1, vR r_39, vI 0, vR r_83]) rfl ?_
            refine q_iload X90 hx hby at_281 rfl ?_
            refine own_endH X90 hS83 (show _ ≤ T90.heap.size by rw [e90]; exact hk83) e90 hh CR86 hZ83 (own_EW hw) (v := (some (.int 1))) (fun h => by rw [hret] at h; cases h) hlk (by decide) (by decide) ?_ (fun fs hr => retOut X90 hx hret rfl (Or.inl ⟨rfl, Or.inr (Or.inl rfl), _, rfl⟩) (hb hby at_283) hr)
            show Q_rm0 Z x0 x1 x2 x3 x4 x5 gz gfm gwC gwM h0 n0 _ T90.heap _
            rw [e90]
            exact ⟨N90, trivial, rfl⟩
      · refine own_goS st50 ?_
        refine q_ifYes (pc := 208) X50 hx hby at_208 (pc' := 225) ((if0 _ _).trans (teq (show ((0 : Int32) = (0 : Int32)) from by decide)).1) (by decide) (by decide) ?_
        refine q_iconst X50 hx hby at_225 ?_
        refine q_istore X50 hx hby at_226 (l' := #[vI x0, vI x1, vI x2, vI x3, vI x4, vI x5, vR r_1, vR r_5, vR r_9, vR u1_, vR u2_, vR u3_, vR r_13, vI 1, vR r_39, vI 0, uS]) rfl ?_
        refine q_iload X50 hx hby at_228 rfl ?_
        refine q_ifNo X50 hx hby at_230 ((if0 _ _).trans (feq (show ¬ ((1 : Int32) = (0 : Int32)) from by decide)).1) ?_
        refine q_aload X50 hx hby at_233 rfl rfl ?_
        refine q_aload X50 hx hby at_235 rfl rfl ?_
        have f91 := (c13_1.keep Kc39 nin0)
        have f92 := (c13_2.keep Kc39 nin0)
        have f93 := (c13_3.keep Kc39 nin0)
        have f94 := (c13_4.keep Kc39 nin0)
        have f95 := (f23.keep Kc39)
        have f96 := (f28.keep Kc39)
        have f97 := (f33.keep Kc39)
        have f98 := ((A2_.keep Kc13 nin0 nin0).keep Kc39 nin0 nin0)
        have f99 := (f38.keep Kc39 nin0 nin0)
        have f100 := (c13_0.keep Kc39)
        obtain ⟨cqiv101, kqiv101, qiv101a, qiv101b, qiv101c⟩ := isOf hZ39 e50 f100
        obtain ⟨_, _, ⟨T102, L102, k102, n102⟩, -, X102, ⟨Lc102, hQ102, l102, y102, z102⟩, st102⟩ := X50.virtualBack hx (y := own_m37) (z := own_m37) hown39 (mvT hZ39 (wh hw 136 rfl)) (mvT hZ39 (wh hw 137 rfl)) (notFace_of_selects (args := #[]) (mvT hZ39 (wh hw 139 rfl))) (mvT hZ39 (wh hw 139 rfl)) (mvT hZ39 (wh hw 138 rfl)) (by decide) (backOf (W := 0) (own_scEq l Z a0 hw [] r_13 r_39 r_1 rb_1 cs_1 r_5 rb_5 cs_5 r_9 rb_9 cs_9 u1_ v1_ d1_ u2_ v2_ d2_ u3_ v3_ d3_ h39 n0 O40 gz gfm gwC gwM G f91 f92 f93 f94 f95 f96 f97 c39_0 c39_1 c39_2 c39_3 c39_4 f43 f47 f98 f44 f48 f99) hZ39 (wh hw 140 rfl) (wh hw 39 rfl) (by decide) (by decide)) qiv101a qiv101c (g := (mkF m 237 #[vI x0, vI x1, vI x2, vI x3, vI x4, vI x5, vR r_1, vR r_5, vR r_9, vR u1_, vR u2_, vR u3_, vR r_13, vI 1, vR r_39, vI 0, uS] [.ref r_39, .ref r_13])) rfl (by rw [hml]; rfl) (Steps.refl _) (argsL := [.ref r_39]) (rest := []) (lenOf own_pd_26 rfl) rfl (by show 2 * 0 + _ ≤ _; exact Nat.le_of_eq rfl) (hb hby at_237) (fun _ _ => ⟨rfl, e50, (by decide : 54 + 0 ≤ _), (by decide : 400 + 0 ≤ _)⟩)
        dsimp only [Pt.U, Pt.locs, Pt.cells, Pt.slots] at X102 l102 y102 z102 st102 hQ102
        subst l102 y102 z102
        obtain ⟨Nc102, e102, r_102, rfl, c102_0⟩ := hQ102
        have N102 := Fr.app N50 Nc102
        refine own_goS st102 ?_
        rcases c102_0 with ⟨rfl, hs1, hs2, hs3⟩ | ⟨rfl, hsN⟩
        · exact absurd hs2 hq50
        · show own_Goes p e below (T102.setTop (mkF m 240 #[vI x0, vI x1, vI x2, vI x3, vI x4, vI x5, vR r_1, vR r_5, vR r_9, vR u1_, vR u2_, vR u3_, vR r_13, vI 1, vR r_39, vI 0, uS] [.int 0])) _
          refine q_iload X102 hx hby at_240 rfl ?_
          refine q_icmpNo X102 hx hby at_242 (teq (show ((0 : Int32) = (0 : Int32)) from by decide)).2 ?_
          refine q_iconst X102 hx hby at_245 ?_
          refine q_goto (pc := 246) X102 hx hby at_246 (pc' := 250) (by decide) (by decide) ?_
          refine q_istore X102 hx hby at_250 (l' := #[vI x0, vI x1, vI x2, vI x3, vI x4, vI x5, vR r_1, vR r_5, vR r_9, vR u1_, vR u2_, vR u3_, vR r_13, vI 1, vR r_39, vI 0, uS]) rfl ?_
          refine q_aload X102 hx hby at_252 rfl rfl ?_
          obtain ⟨_, _, ⟨T103, L103, k103, n103⟩, -, X103, hS103, gr103, ⟨Lc103, hQ103, l103, y103, z103, cs103⟩, st103⟩ := Jvm.RoadKit.callSS X102 hx (y := own_m39) hown39 (mvT hZ39 (wh hw 143 rfl)) (mvT hZ39 (wh hw 144 rfl)) (mvT hZ39 (wh hw 39 rfl)) (mvT hZ39 (wh hw 145 rfl)) (by decide) (backOfSH (W := 0) (own_ofC l Z a0 hw [] r_5 rb_5 cs_5 h39 n0 O40 gz gfm gwC gwM G f47 (show own_Ok cs_5 from c5_1)) hZ39 (wh hw 145 rfl) (wh hw 39 rfl) (by decide) (by decide) (own_EW hw) CR42.1) (g := (mkF m 254 #[vI x0, vI x1, vI x2, vI x3, vI x4, vI x5, vR r_1, vR r_5, vR r_9, vR u1_, vR u2_, vR u3_, vR r_13, vI 1, vR r_39, vI 0, uS] [.ref r_5])) rfl (by rw [hml]; rfl) (argsL := [.ref r_5]) (rest := []) (lenOf own_pd_38 rfl) rfl (by show 2 * 0 + _ ≤ _; exact Nat.le_of_eq rfl) (hb hby at_254) (fun _ _ => ⟨rfl, e102, (by decide : 54 + 7 ≤ _), (by decide : 400 + 48 ≤ _)⟩)
          dsimp only [Pt.U, Pt.locs, Pt.cells, Pt.slots] at X103 l103 y103 z103 st103 hQ103 hS103 gr103 cs103
          subst l103 y103 z103
          obtain ⟨h103, e103⟩ : ∃ z, T103.heap = z := ⟨_, rfl⟩
          rw [e103] at hQ103 hS103 gr103 cs103
          obtain ⟨Nc103, Kc103, r_103, rfl, c103_0, c103_1, c103_2⟩ := hQ103
          obtain ⟨X103, hS103, hZ103, hown103⟩ := rebS (own := "com/example/circa_once/circaonce/model/ScopeOfPinLaw") hS39 (show _ ≤ T102.heap.size by rw [e102]; exact hk39) X103 hS103 gr103 hZ39 hown39
          have hk103 : h103.size ≤ h103.size := Nat.le_refl _
          have N103 := Fr.app N102 Nc103
          have O104 := O40.keep Kc103 all0
          have sz105 : h39.size ≤ h103.size := Kc103.1
          have CR106 := CHr.trans CR42 cs103
          have ltc103_0 : @LT.lt Nat _ r_103 h103.size := c103_0.lt
          refine own_goS st103 ?_
          refine q_astore X103 hx hby at_257 rfl (l' := #[vI x0, vI x1, vI x2, vI x3, vI x4, vI x5, vR r_1, vR r_5, vR r_9, vR u1_, vR u2_, vR u3_, vR r_13, vI 1, vR r_39, vI 0, vR r_103]) rfl ?_
          refine q_iload X103 hx hby at_259 rfl ?_
          refine q_ifNo X103 hx hby at_261 ((if0 _ _).trans (feq (show ¬ ((1 : Int32) = (0 : Int32)) from by decide)).1) ?_
          refine q_aload X103 hx hby at_264 rfl rfl ?_
          refine q_aload X103 hx hby at_266 rfl rfl ?_
          have f107 := (f91.keep Kc103 nin0)
          have f108 := (f100.keep Kc103)
          obtain ⟨cqiv109, kqiv109, qiv109a, qiv109b, qiv109c⟩ := isOf hZ103 e103 f108
          obtain ⟨_, _, ⟨T110, L110, k110, n110⟩, -, X110, ⟨Lc110, hQ110, l110, y110, z110⟩, st110⟩ := X103.virtualBack hx (y := own_m37) (z := own_m37) hown103 (mvT hZ103 (wh hw 136 rfl)) (mvT hZ103 (wh hw 137 rfl)) (notFace_of_selects (args := #[]) (mvT hZ103 (wh hw 139 rfl))) (mvT hZ103 (wh hw 139 rfl)) (mvT hZ103 (wh hw 138 rfl)) (by decide) (backOf (W := 0) (own_scNe l Z a0 hw [] r_13 r_103 h103 n0 O104 gz gfm gwC gwM G f107 c103_0 c103_1) hZ103 (wh hw 140 rfl) (wh hw 39 rfl) (by decide) (by decide)) qiv109a qiv109c (g := (mkF m 268 #[vI x0, vI x1, vI x2, vI x3, vI x4, vI x5, vR r_1, vR r_5, vR r_9, vR u1_, vR u2_, vR u3_, vR r_13, vI 1, vR r_39, vI 0, vR r_103] [.ref r_103, .ref r_13])) rfl (by rw [hml]; rfl) (Steps.refl _) (argsL := [.ref r_103]) (rest := []) (lenOf own_pd_26 rfl) rfl (by show 2 * 0 + _ ≤ _; exact Nat.le_of_eq rfl) (hb hby at_268) (fun _ _ => ⟨rfl, e103, (by decide : 61 + 0 ≤ _), (by decide : 448 + 0 ≤ _)⟩)
          dsimp only [Pt.U, Pt.locs, Pt.cells, Pt.slots] at X110 l110 y110 z110 st110 hQ110
          subst l110 y110 z110
          obtain ⟨Nc110, e110, rfl⟩ := hQ110
          have N110 := Fr.app N103 Nc110
          refine own_goS st110 ?_
          refine q_ifNo X110 hx hby at_271 ((if0 _ _).trans (teq (show ((0 : Int32) = (0 : Int32)) from by decide)).2) ?_
          show own_Goes p e below (T110.setTop (mkF m 274 #[vI x0, vI x1, vI x2, vI x3, vI x4, vI x5, vR r_1, vR r_5, vR r_9, vR u1_, vR u2_, vR u3_, vR r_13, vI 1, vR r_39, vI 0, vR r_103] [])) _
          refine q_iconst X110 hx hby at_274 ?_
          refine q_goto (pc := 275) X110 hx hby at_275 (pc' := 279) (by decide) (by decide) ?_
          refine q_istore X110 hx hby at_279 (l' := #[vI x0, vI x1, vI x2, vI x3, vI x4, vI x5, vR r_1, vR r_5, vR r_9, vR u1_, vR u2_, vR u3_, vR r_13, vI 1, vR r_39, vI 0, vR r_103]) rfl ?_
          refine q_iload X110 hx hby at_281 rfl ?_
          refine own_endH X110 hS103 (show _ ≤ T110.heap.size by rw [e110]; exact hk103) e110 hh CR106 hZ103 (own_EW hw) (v := (some (.int 1))) (fun h => by rw [hret] at h; cases h) hlk (by decide) (by decide) ?_ (fun fs hr => retOut X110 hx hret rfl (Or.inl ⟨rfl, Or.inr (Or.inl rfl), _, rfl⟩) (hb hby at_283) hr)
          show Q_rm0 Z x0 x1 x2 x3 x4 x5 gz gfm gwC gwM h0 n0 _ T110.heap _
          rw [e110]
          exact ⟨N110, trivial, rfl⟩
    · refine own_goS st46 ?_
      refine q_ifYes (pc := 198) X46 hx hby at_198 (pc' := 225) ((if0 _ _).trans (teq (show ((0 : Int32) = (0 : Int32)) from by decide)).1) (by decide) (by decide) ?_
      refine q_iconst X46 hx hby at_225 ?_
      refine q_istore X46 hx hby at_226 (l' := #[vI x0, vI x1, vI x2, vI x3, vI x4, vI x5, vR r_1, vR r_5, vR r_9, vR u1_, vR u2_, vR u3_, vR r_13, vI 1, vR r_39, vI 0, uS]) rfl ?_
      refine q_iload X46 hx hby at_228 rfl ?_
      refine q_ifNo X46 hx hby at_230 ((if0 _ _).trans (feq (show ¬ ((1 : Int32) = (0 : Int32)) from by decide)).1) ?_
      refine q_aload X46 hx hby at_233 rfl rfl ?_
      refine q_aload X46 hx hby at_235 rfl rfl ?_
      have f111 := (c13_1.keep Kc39 nin0)
      have f112 := (c13_2.keep Kc39 nin0)
      have f113 := (c13_3.keep Kc39 nin0)
      have f114 := (c13_4.keep Kc39 nin0)
      have f115 := (f23.keep Kc39)
      have f116 := (f28.keep Kc39)
      have f117 := (f33.keep Kc39)
      have f118 := ((A1_.keep Kc13 nin0 nin0).keep Kc39 nin0 nin0)
      have f119 := ((A2_.keep Kc13 nin0 nin0).keep Kc39 nin0 nin0)
      have f120 := (f37.keep Kc39 nin0 nin0)
      have f121 := (f38.keep Kc39 nin0 nin0)
      have f122 := (c13_0.keep Kc39)
      obtain ⟨cqiv123, kqiv123, qiv123a, qiv123b, qiv123c⟩ := isOf hZ39 e46 f122
      obtain ⟨_, _, ⟨T124, L124, k124, n124⟩, -, X124, ⟨Lc124, hQ124, l124, y124, z124⟩, st124⟩ := X46.virtualBack hx (y := own_m37) (z := own_m37) hown39 (mvT hZ39 (wh hw 136 rfl)) (mvT hZ39 (wh hw 137 rfl)) (notFace_of_selects (args := #[]) (mvT hZ39 (wh hw 139 rfl))) (mvT hZ39 (wh hw 139 rfl)) (mvT hZ39 (wh hw 138 rfl)) (by decide) (backOf (W := 0) (own_scEq l Z a0 hw [] r_13 r_39 r_1 rb_1 cs_1 r_5 rb_5 cs_5 r_9 rb_9 cs_9 u1_ v1_ d1_ u2_ v2_ d2_ u3_ v3_ d3_ h39 n0 O40 gz gfm gwC gwM G f111 f112 f113 f114 f115 f116 f117 c39_0 c39_1 c39_2 c39_3 c39_4 f43 f118 f119 f44 f120 f121) hZ39 (wh hw 140 rfl) (wh hw 39 rfl) (by decide) (by decide)) qiv123a qiv123c (g := (mkF m 237 #[vI x0, vI x1, vI x2, vI x3, vI x4, vI x5, vR r_1, vR r_5, vR r_9, vR u1_, vR u2_, vR u3_, vR r_13, vI 1, vR r_39, vI 0, uS] [.ref r_39, .ref r_13])) rfl (by rw [hml]; rfl) (Steps.refl _) (argsL := [.ref r_39]) (rest := []) (lenOf own_pd_26 rfl) rfl (by show 2 * 0 + _ ≤ _; exact Nat.le_of_eq rfl) (hb hby at_237) (fun _ _ => ⟨rfl, e46, (by decide : 54 + 0 ≤ _), (by decide : 400 + 0 ≤ _)⟩)
      dsimp only [Pt.U, Pt.locs, Pt.cells, Pt.slots] at X124 l124 y124 z124 st124 hQ124
      subst l124 y124 z124
      obtain ⟨Nc124, e124, r_124, rfl, c124_0⟩ := hQ124
      have N124 := Fr.app N46 Nc124
      refine own_goS st124 ?_
      rcases c124_0 with ⟨rfl, hs1, hs2, hs3⟩ | ⟨rfl, hsN⟩
      · exact absurd hs1 hq46
      · show own_Goes p e below (T124.setTop (mkF m 240 #[vI x0, vI x1, vI x2, vI x3, vI x4, vI x5, vR r_1, vR r_5, vR r_9, vR u1_, vR u2_, vR u3_, vR r_13, vI 1, vR r_39, vI 0, uS] [.int 0])) _
        refine q_iload X124 hx hby at_240 rfl ?_
        refine q_icmpNo X124 hx hby at_242 (teq (show ((0 : Int32) = (0 : Int32)) from by decide)).2 ?_
        refine q_iconst X124 hx hby at_245 ?_
        refine q_goto (pc := 246) X124 hx hby at_246 (pc' := 250) (by decide) (by decide) ?_
        refine q_istore X124 hx hby at_250 (l' := #[vI x0, vI x1, vI x2, vI x3, vI x4, vI x5, vR r_1, vR r_5, vR r_9, vR u1_, vR u2_, vR u3_, vR r_13, vI 1, vR r_39, vI 0, uS]) rfl ?_
        refine q_aload X124 hx hby at_252 rfl rfl ?_
        obtain ⟨_, _, ⟨T125, L125, k125, n125⟩, -, X125, hS125, gr125, ⟨Lc125, hQ125, l125, y125, z125, cs125⟩, st125⟩ := Jvm.RoadKit.callSS X124 hx (y := own_m39) hown39 (mvT hZ39 (wh hw 143 rfl)) (mvT hZ39 (wh hw 144 rfl)) (mvT hZ39 (wh hw 39 rfl)) (mvT hZ39 (wh hw 145 rfl)) (by decide) (backOfSH (W := 0) (own_ofC l Z a0 hw [] r_5 rb_5 cs_5 h39 n0 O40 gz gfm gwC gwM G f118 (show own_Ok cs_5 from c5_1)) hZ39 (wh hw 145 rfl) (wh hw 39 rfl) (by decide) (by decide) (own_EW hw) CR42.1) (g := (mkF m 254 #[vI x0, vI x1, vI x2, vI x3, vI x4, vI x5, vR r_1, vR r_5, vR r_9, vR u1_, vR u2_, vR u3_, vR r_13, vI 1, vR r_39, vI 0, uS] [.ref r_5])) rfl (by rw [hml]; rfl) (argsL := [.ref r_5]) (rest := []) (lenOf own_pd_38 rfl) rfl (by show 2 * 0 + _ ≤ _; exact Nat.le_of_eq rfl) (hb hby at_254) (fun _ _ => ⟨rfl, e124, (by decide : 54 + 7 ≤ _), (by decide : 400 + 48 ≤ _)⟩)
        dsimp only [Pt.U, Pt.locs, Pt.cells, Pt.slots] at X125 l125 y125 z125 st125 hQ125 hS125 gr125 cs125
        subst l125 y125 z125
        obtain ⟨h125, e125⟩ : ∃ z, T125.heap = z := ⟨_, rfl⟩
        rw [e125] at hQ125 hS125 gr125 cs125
        obtain ⟨Nc125, Kc125, r_125, rfl, c125_0, c125_1, c125_2⟩ := hQ125
        obtain ⟨X125, hS125, hZ125, hown125⟩ := rebS (own := "com/example/circa_once/circaonce/model/ScopeOfPinLaw") hS39 (show _ ≤ T124.heap.size by rw [e124]; exact hk39) X125 hS125 gr125 hZ39 hown39
        have hk125 : h125.size ≤ h125.size := Nat.le_refl _
        have N125 := Fr.app N124 Nc125
        have O126 := O40.keep Kc125 all0
        have sz127 : h39.size ≤ h125.size := Kc125.1
        have CR128 := CHr.trans CR42 cs125
        have ltc125_0 : @LT.lt Nat _ r_125 h125.size := c125_0.lt
        refine own_goS st125 ?_
        refine q_astore X125 hx hby at_257 rfl (l' := #[vI x0, vI x1, vI x2, vI x3, vI x4, vI x5, vR r_1, vR r_5, vR r_9, vR u1_, vR u2_, vR u3_, vR r_13, vI 1, vR r_39, vI 0, vR r_125]) rfl ?_
        refine q_iload X125 hx hby at_259 rfl ?_
        refine q_ifNo X125 hx hby at_261 ((if0 _ _).trans (feq (show ¬ ((1 : Int32) = (0 : Int32)) from by decide)).1) ?_
        refine q_aload X125 hx hby at_264 rfl rfl ?_
        refine q_aload X125 hx hby at_266 rfl rfl ?_
        have f129 := (f111.keep Kc125 nin0)
        have f130 := (f122.keep Kc125)
        obtain ⟨cqiv131, kqiv131, qiv131a, qiv131b, qiv131c⟩ := isOf hZ125 e125 f130
        obtain ⟨_, _, ⟨T132, L132, k132, n132⟩, -, X132, ⟨Lc132, hQ132, l132, y132, z132⟩, st132⟩ := X125.virtualBack hx (y := own_m37) (z := own_m37) hown125 (mvT hZ125 (wh hw 136 rfl)) (mvT hZ125 (wh hw 137 rfl)) (notFace_of_selects (args := #[]) (mvT hZ125 (wh hw 139 rfl))) (mvT hZ125 (wh hw 139 rfl)) (mvT hZ125 (wh hw 138 rfl)) (by decide) (backOf (W := 0) (own_scNe l Z a0 hw [] r_13 r_125 h125 n0 O126 gz gfm gwC gwM G f129 c125_0 c125_1) hZ125 (wh hw 140 rfl) (wh hw 39 rfl) (by decide) (by decide)) qiv131a qiv131c (g := (mkF m 268 #[vI x0, vI x1, vI x2, vI x3, vI x4, vI x5, vR r_1, vR r_5, vR r_9, vR u1_, vR u2_, vR u3_, vR r_13, vI 1, vR r_39, vI 0, vR r_125] [.ref r_125, .ref r_13])) rfl (by rw [hml]; rfl) (Steps.refl _) (argsL := [.ref r_125]) (rest := []) (lenOf own_pd_26 rfl) rfl (by show 2 * 0 + _ ≤ _; exact Nat.le_of_eq rfl) (hb hby at_268) (fun _ _ => ⟨rfl, e125, (by decide : 61 + 0 ≤ _), (by decide : 448 + 0 ≤ _)⟩)
        dsimp only [Pt.U, Pt.locs, Pt.cells, Pt.slots] at X132 l132 y132 z132 st132 hQ132
        subst l132 y132 z132
        obtain ⟨Nc132, e132, rfl⟩ := hQ132
        have N132 := Fr.app N125 Nc132
        refine own_goS st132 ?_
        refine q_ifNo X132 hx hby at_271 ((if0 _ _).trans (teq (show ((0 : Int32) = (0 : Int32)) from by decide)).2) ?_
        show own_Goes p e below (T132.setTop (mkF m 274 #[vI x0, vI x1, vI x2, vI x3, vI x4, vI x5, vR r_1, vR r_5, vR r_9, vR u1_, vR u2_, vR u3_, vR r_13, vI 1, vR r_39, vI 0, vR r_125] [])) _
        refine q_iconst X132 hx hby at_274 ?_
        refine q_goto (pc := 275) X132 hx hby at_275 (pc' := 279) (by decide) (by decide) ?_
        refine q_istore X132 hx hby at_279 (l' := #[vI x0, vI x1, vI x2, vI x3, vI x4, vI x5, vR r_1, vR r_5, vR r_9, vR u1_, vR u2_, vR u3_, vR r_13, vI 1, vR r_39, vI 0, vR r_125]) rfl ?_
        refine q_iload X132 hx hby at_281 rfl ?_
        refine own_endH X132 hS125 (show _ ≤ T132.heap.size by rw [e132]; exact hk125) e132 hh CR128 hZ125 (own_EW hw) (v := (some (.int 1))) (fun h => by rw [hret] at h; cases h) hlk (by decide) (by decide) ?_ (fun fs hr => retOut X132 hx hret rfl (Or.inl ⟨rfl, Or.inr (Or.inl rfl), _, rfl⟩) (hb hby at_283) hr)
        show Q_rm0 Z x0 x1 x2 x3 x4 x5 gz gfm gwC gwM h0 n0 _ T132.heap _
        rw [e132]
        exact ⟨N132, trivial, rfl⟩
  refine q_iload X9 hx hby at_18 rfl ?_
  refine q_iconst X9 hx hby at_20 ?_
  refine q_iand X9 hx hby at_21 ?_
  by_cases hc133 : (x5 &&& (1 : Int32)) = (0 : Int32)
  · refine q_ifYes (pc := 22) X9 hx hby at_22 (pc' := 30) ((if0 _ _).trans (teq hc133).1) (by decide) (by decide) ?_
    refine q_iloadN X9 hx hby at_30 rfl ?_
    obtain ⟨_, _, ⟨T134, L134, k134, n134⟩, -, X134, hS134, gr134, ⟨Lc134, hQ134, l134, y134, z134, cs134⟩, st134⟩ := Jvm.RoadKit.callSS X9 hx (y := own_m28) hown9 (mvT hZ9 (wh hw 0 rfl)) (mvT hZ9 (wh hw 1 rfl)) (mvT hZ9 (wh hw 2 rfl)) (mvT hZ9 (wh hw 3 rfl)) (by decide) (backOfSH (W := 0) (own_str l Z a0 hw [] x3 h9 n0 O10 gz gfm gwC gwM G) hZ9 (wh hw 3 rfl) (wh hw 2 rfl) (by decide) (by decide) (own_EW hw) CR12.1) (g := (mkF m 31 #[vI x0, vI x1, vI x2, vI x3, vI x4, vI x5, vR r_1, vR r_5, vR r_9, uS, uS, uS, uS, uS, uS, uS, uS] [.int x3])) rfl (by rw [hml]; rfl) (argsL := [.int x3]) (rest := []) (lenOf own_pd_27 rfl) rfl (by show 2 * 0 + _ ≤ _; exact Nat.le_of_eq rfl) (hb hby at_31) (fun _ _ => ⟨rfl, e9, (by decide : 18 + 6 ≤ _), (by decide : 48 + 16 ≤ _)⟩)
    dsimp only [Pt.U, Pt.locs, Pt.cells, Pt.slots] at X134 l134 y134 z134 st134 hQ134 hS134 gr134 cs134
    subst l134 y134 z134
    obtain ⟨h134, e134⟩ : ∃ z, T134.heap = z := ⟨_, rfl⟩
    rw [e134] at hQ134 hS134 gr134 cs134
    obtain ⟨Nc134, Kc134, r_134, rb_134, cs_134, rfl, c134_0, c134_1, c134_2⟩ := hQ134
    obtain ⟨X134, hS134, hZ134, hown134⟩ := rebS (own := "com/example/circa_once/circaonce/model/ScopeOfPinLaw") hS9 (show _ ≤ T9.heap.size by rw [e9]; exact hk9) X134 hS134 gr134 hZ9 hown9
    have hk134 : h134.size ≤ h134.size := Nat.le_refl _
    have N134 := Fr.app N9 Nc134
    have O135 := O10.keep Kc134 all0
    have sz136 : h9.size ≤ h134.size := Kc134.1
    have CR137 := CHr.trans CR12 cs134
    have ltc134_0 : @LT.lt Nat _ r_134 h134.size := c134_0.1.lt
    have luc134_0 : @LT.lt Nat _ rb_134 h134.size := c134_0.lt2
    refine own_goS st134 ?_
    refine q_astore X134 hx hby at_34 rfl (l' := #[vI x0, vI x1, vI x2, vI x3, vI x4, vI x5, vR r_1, vR r_5, vR r_9, vR r_134, uS, uS, uS, uS, uS, uS, uS]) rfl ?_
    refine q_iload X134 hx hby at_36 rfl ?_
    refine q_iconst X134 hx hby at_38 ?_
    refine q_iand X134 hx hby at_39 ?_
    show own_Goes p e below (T134.setTop (mkF m 40 #[vI x0, vI x1, vI x2, vI x3, vI x4, vI x5, vR r_1, vR r_5, vR r_9, vR r_134, uS, uS, uS, uS, uS, uS, uS] [(.int (x5 &&& (2 : Int32)))])) _
    by_cases hc138 : (x5 &&& (2 : Int32)) = (0 : Int32)
    · refine q_ifYes (pc := 40) X134 hx hby at_40 (pc' := 48) ((if0 _ _).trans (teq hc138).1) (by decide) (by decide) ?_
      refine q_iload X134 hx hby at_48 rfl ?_
      obtain ⟨_, _, ⟨T139, L139, k139, n139⟩, -, X139, hS139, gr139, ⟨Lc139, hQ139, l139, y139, z139, cs139⟩, st139⟩ := Jvm.RoadKit.callSS X134 hx (y := own_m28) hown134 (mvT hZ134 (wh hw 0 rfl)) (mvT hZ134 (wh hw 1 rfl)) (mvT hZ134 (wh hw 2 rfl)) (mvT hZ134 (wh hw 3 rfl)) (by decide) (backOfSH (W := 0) (own_str l Z a0 hw [] x4 h134 n0 O135 gz gfm gwC gwM G) hZ134 (wh hw 3 rfl) (wh hw 2 rfl) (by decide) (by decide) (own_EW hw) CR137.1) (g := (mkF m 50 #[vI x0, vI x1, vI x2, vI x3, vI x4, vI x5, vR r_1, vR r_5, vR r_9, vR r_134, uS, uS, uS, uS, uS, uS, uS] [.int x4])) rfl (by rw [hml]; rfl) (argsL := [.int x4]) (rest := []) (lenOf own_pd_27 rfl) rfl (by show 2 * 0 + _ ≤ _; exact Nat.le_of_eq rfl) (hb hby at_50) (fun _ _ => ⟨rfl, e134, (by decide : 24 + 6 ≤ _), (by decide : 64 + 16 ≤ _)⟩)
      dsimp only [Pt.U, Pt.locs, Pt.cells, Pt.slots] at X139 l139 y139 z139 st139 hQ139 hS139 gr139 cs139
      subst l139 y139 z139
      obtain ⟨h139, e139⟩ : ∃ z, T139.heap = z := ⟨_, rfl⟩
      rw [e139] at hQ139 hS139 gr139 cs139
      obtain ⟨Nc139, Kc139, r_139, rb_139, cs_139, rfl, c139_0, c139_1, c139_2⟩ := hQ139
      obtain ⟨X139, hS139, hZ139, hown139⟩ := rebS (own := "com/example/circa_once/circaonce/model/ScopeOfPinLaw") hS134 (show _ ≤ T134.heap.size by rw [e134]; exact hk134) X139 hS139 gr139 hZ134 hown134
      have hk139 : h139.size ≤ h139.size := Nat.le_refl _
      have N139 := Fr.app N134 Nc139
      have O140 := O135.keep Kc139 all0
      have sz141 : h134.size ≤ h139.size := Kc139.1
      have CR142 := CHr.trans CR137 cs139
      have ltc139_0 : @LT.lt Nat _ r_139 h139.size := c139_0.1.lt
      have luc139_0 : @LT.lt Nat _ rb_139 h139.size := c139_0.lt2
      refine own_goS st139 ?_
      refine q_astore X139 hx hby at_53 rfl (l' := #[vI x0, vI x1, vI x2, vI x3, vI x4, vI x5, vR r_1, vR r_5, vR r_9, vR r_134, vR r_139, uS, uS, uS, uS, uS, uS]) rfl ?_
      refine q_iload X139 hx hby at_55 rfl ?_
      refine q_iconst X139 hx hby at_57 ?_
      refine q_iand X139 hx hby at_58 ?_
      by_cases hc143 : (x5 &&& (4 : Int32)) = (0 : Int32)
      · refine q_ifYes (pc := 59) X139 hx hby at_59 (pc' := 67) ((if0 _ _).trans (teq hc143).1) (by decide) (by decide) ?_
        refine q_iload X139 hx hby at_67 rfl ?_
        refine q_iconst X139 hx hby at_69 ?_
        refine gg (fun t k => XS.iushr X139.here hx rfl (hb hby at_70) rfl k) ?_
        obtain ⟨_, _, ⟨T144, L144, k144, n144⟩, -, X144, hS144, gr144, ⟨Lc144, hQ144, l144, y144, z144, cs144⟩, st144⟩ := Jvm.RoadKit.callSS X139 hx (y := own_m28) hown139 (mvT hZ139 (wh hw 0 rfl)) (mvT hZ139 (wh hw 1 rfl)) (mvT hZ139 (wh hw 2 rfl)) (mvT hZ139 (wh hw 3 rfl)) (by decide) (backOfSH (W := 0) (own_str l Z a0 hw [] ((x5.toUInt32 >>> ((3 : Int32) &&& 31).toUInt32).toInt32) h139 n0 O140 gz gfm gwC gwM G) hZ139 (wh hw 3 rfl) (wh hw 2 rfl) (by decide) (by decide) (own_EW hw) CR142.1) (g := (mkF m 71 #[vI x0, vI x1, vI x2, vI x3, vI x4, vI x5, vR r_1, vR r_5, vR r_9, vR r_134, vR r_139, uS, uS, uS, uS, uS, uS] [(.int ((x5.toUInt32 >>> ((3 : Int32) &&& 31).toUInt32).toInt32))])) rfl (by rw [hml]; rfl) (argsL := [(.int ((x5.toUInt32 >>> ((3 : Int32) &&& 31).toUInt32).toInt32))]) (rest := []) (lenOf own_pd_27 rfl) rfl (by show 2 * 0 + _ ≤ _; exact Nat.le_of_eq rfl) (hb hby at_71) (fun _ _ => ⟨rfl, e139, (by decide : 30 + 6 ≤ _), (by decide : 80 + 16 ≤ _)⟩)
        dsimp only [Pt.U, Pt.locs, Pt.cells, Pt.slots] at X144 l144 y144 z144 st144 hQ144 hS144 gr144 cs144
        subst l144 y144 z144
        obtain ⟨h144, e144⟩ : ∃ z, T144.heap = z := ⟨_, rfl⟩
        rw [e144] at hQ144 hS144 gr144 cs144
        obtain ⟨Nc144, Kc144, r_144, rb_144, cs_144, rfl, c144_0, c144_1, c144_2⟩ := hQ144
        obtain ⟨X144, hS144, hZ144, hown144⟩ := rebS (own := "com/example/circa_once/circaonce/model/ScopeOfPinLaw") hS139 (show _ ≤ T139.heap.size by rw [e139]; exact hk139) X144 hS144 gr144 hZ139 hown139
        have hk144 : h144.size ≤ h144.size := Nat.le_refl _
        have N144 := Fr.app N139 Nc144
        have O145 := O140.keep Kc144 all0
        have sz146 : h139.size ≤ h144.size := Kc144.1
        have CR147 := CHr.trans CR142 cs144
        have ltc144_0 : @LT.lt Nat _ r_144 h144.size := c144_0.1.lt
        have luc144_0 : @LT.lt Nat _ rb_144 h144.size := c144_0.lt2
        refine own_goS st144 ?_
        refine q_astore X144 hx hby at_74 rfl (l' := #[vI x0, vI x1, vI x2, vI x3, vI x4, vI x5, vR r_1, vR r_5, vR r_9, vR r_134, vR r_139, vR r_144, uS, uS, uS, uS, uS]) rfl ?_
        have f148 := (((((c1_0.keep Kc5 nin0 nin0).keep Kc9 nin0 nin0).keep Kc134 nin0 nin0).keep Kc139 nin0 nin0).keep Kc144 nin0 nin0)
        have f149 := ((((c5_0.keep Kc9 nin0 nin0).keep Kc134 nin0 nin0).keep Kc139 nin0 nin0).keep Kc144 nin0 nin0)
        have f150 := (((c9_0.keep Kc134 nin0 nin0).keep Kc139 nin0 nin0).keep Kc144 nin0 nin0)
        have f151 := ((c134_0.keep Kc139 nin0 nin0).keep Kc144 nin0 nin0)
        have f152 := (c139_0.keep Kc144 nin0 nin0)
        exact TL _ _ _ _ _ r_134 rb_134 r_139 rb_139 r_144 rb_144 cs_134 cs_139 cs_144 (X144.mono (by decide) (by decide)) hS144 hk144 hZ144 hown144 CR147 e144 N144 O145 f148 f149 f150 f151 f152 c144_0 c134_1 c139_1 c144_1
      · refine q_ifNo X139 hx hby at_59 ((if0 _ _).trans (feq hc143).1) ?_
        show own_Goes p e below (T139.setTop (mkF m 62 #[vI x0, vI x1, vI x2, vI x3, vI x4, vI x5, vR r_1, vR r_5, vR r_9, vR r_134, vR r_139, uS, uS, uS, uS, uS, uS] [])) _
        refine q_aload X139 hx hby at_62 rfl rfl ?_
        refine q_goto (pc := 64) X139 hx hby at_64 (pc' := 74) (by decide) (by decide) ?_
        refine q_astore X139 hx hby at_74 rfl (l' := #[vI x0, vI x1, vI x2, vI x3, vI x4, vI x5, vR r_1, vR r_5, vR r_9, vR r_134, vR r_139, vR r_9, uS, uS, uS, uS, uS]) rfl ?_
        have f153 := ((((c1_0.keep Kc5 nin0 nin0).keep Kc9 nin0 nin0).keep Kc134 nin0 nin0).keep Kc139 nin0 nin0)
        have f154 := (((c5_0.keep Kc9 nin0 nin0).keep Kc134 nin0 nin0).keep Kc139 nin0 nin0)
        have f155 := ((c9_0.keep Kc134 nin0 nin0).keep Kc139 nin0 nin0)
        have f156 := (c134_0.keep Kc139 nin0 nin0)
        exact TL _ _ _ _ _ r_134 rb_134 r_139 rb_139 r_9 rb_9 cs_134 cs_139 cs_9 (X139.mono (by decide) (by decide)) hS139 hk139 hZ139 hown139 CR142 e139 N139 O140 f153 f154 f155 f156 c139_0 f155 c134_1 c139_1 c9_1
    · refine q_ifNo X134 hx hby at_40 ((if0 _ _).trans (feq hc138).1) ?_
      refine q_aload X134 hx hby at_43 rfl rfl ?_
      refine q_goto (pc := 45) X134 hx hby at_45 (pc' := 53) (by decide) (by decide) ?_
      refine q_astore X134 hx hby at_53 rfl (l' := #[vI x0, vI x1, vI x2, vI x3, vI x4, vI x5, vR r_1, vR r_5, vR r_9, vR r_134, vR r_5, uS, uS, uS, uS, uS, uS]) rfl ?_
      refine q_iload X134 hx hby at_55 rfl ?_
      refine q_iconst X134 hx hby at_57 ?_
      refine q_iand X134 hx hby at_58 ?_
      by_cases hc157 : (x5 &&& (4 : Int32)) = (0 : Int32)
      · refine q_ifYes (pc := 59) X134 hx hby at_59 (pc' := 67) ((if0 _ _).trans (teq hc157).1) (by decide) (by decide) ?_
        refine q_iload X134 hx hby at_67 rfl ?_
        refine q_iconst X134 hx hby at_69 ?_
        refine gg (fun t k => XS.iushr X134.here hx rfl (hb hby at_70) rfl k) ?_
        show own_Goes p e below (T134.setTop (mkF m 71 #[vI x0, vI x1, vI x2, vI x3, vI x4, vI x5, vR r_1, vR r_5, vR r_9, vR r_134, vR r_5, uS, uS, uS, uS, uS, uS] [(.int ((x5.toUInt32 >>> ((3 : Int32) &&& 31).toUInt32).toInt32))])) _
        obtain ⟨_, _, ⟨T158, L158, k158, n158⟩, -, X158, hS158, gr158, ⟨Lc158, hQ158, l158, y158, z158, cs158⟩, st158⟩ := Jvm.RoadKit.callSS X134 hx (y := own_m28) hown134 (mvT hZ134 (wh hw 0 rfl)) (mvT hZ134 (wh hw 1 rfl)) (mvT hZ134 (wh hw 2 rfl)) (mvT hZ134 (wh hw 3 rfl)) (by decide) (backOfSH (W := 0) (own_str l Z a0 hw [] ((x5.toUInt32 >>> ((3 : Int32) &&& 31).toUInt32).toInt32) h134 n0 O135 gz gfm gwC gwM G) hZ134 (wh hw 3 rfl) (wh hw 2 rfl) (by decide) (by decide) (own_EW hw) CR137.1) (g := (mkF m 71 #[vI x0, vI x1, vI x2, vI x3, vI x4, vI x5, vR r_1, vR r_5, vR r_9, vR r_134, vR r_5, uS, uS, uS, uS, uS, uS] [(.int ((x5.toUInt32 >>> ((3 : Int32) &&& 31).toUInt32).toInt32))])) rfl (by rw [hml]; rfl) (argsL := [(.int ((x5.toUInt32 >>> ((3 : Int32) &&& 31).toUInt32).toInt32))]) (rest := []) (lenOf own_pd_27 rfl) rfl (by show 2 * 0 + _ ≤ _; exact Nat.le_of_eq rfl) (hb hby at_71) (fun _ _ => ⟨rfl, e134, (by decide : 24 + 6 ≤ _), (by decide : 64 + 16 ≤ _)⟩)
        dsimp only [Pt.U, Pt.locs, Pt.cells, Pt.slots] at X158 l158 y158 z158 st158 hQ158 hS158 gr158 cs158
        subst l158 y158 z158
        obtain ⟨h158, e158⟩ : ∃ z, T158.heap = z := ⟨_, rfl⟩
        rw [e158] at hQ158 hS158 gr158 cs158
        obtain ⟨Nc158, Kc158, r_158, rb_158, cs_158, rfl, c158_0, c158_1, c158_2⟩ := hQ158
        obtain ⟨X158, hS158, hZ158, hown158⟩ := rebS (own := "com/example/circa_once/circaonce/model/ScopeOfPinLaw") hS134 (show _ ≤ T134.heap.size by rw [e134]; exact hk134) X158 hS158 gr158 hZ134 hown134
        have hk158 : h158.size ≤ h158.size := Nat.le_refl _
        have N158 := Fr.app N134 Nc158
        have O159 := O135.keep Kc158 all0
        have sz160 : h134.size ≤ h158.size := Kc158.1
        have CR161 := CHr.trans CR137 cs158
        have ltc158_0 : @LT.lt Nat _ r_158 h158.size := c158_0.1.lt
        have luc158_0 : @LT.lt Nat _ rb_158 h158.size := c158_0.lt2
        refine own_goS st158 ?_
        refine q_astore X158 hx hby at_74 rfl (l' := #[vI x0, vI x1, vI x2, vI x3, vI x4, vI x5, vR r_1, vR r_5, vR r_9, vR r_134, vR r_5, vR r_158, uS, uS, uS, uS, uS]) rfl ?_
        have f162 := ((((c1_0.keep Kc5 nin0 nin0).keep Kc9 nin0 nin0).keep Kc134 nin0 nin0).keep Kc158 nin0 nin0)
        have f163 := (((c5_0.keep Kc9 nin0 nin0).keep Kc134 nin0 nin0).keep Kc158 nin0 nin0)
        have f164 := ((c9_0.keep Kc134 nin0 nin0).keep Kc158 nin0 nin0)
        have f165 := (c134_0.keep Kc158 nin0 nin0)
        exact TL _ _ _ _ _ r_134 rb_134 r_5 rb_5 r_158 rb_158 cs_134 cs_5 cs_158 (X158.mono (by decide) (by decide)) hS158 hk158 hZ158 hown158 CR161 e158 N158 O159 f162 f163 f164 f165 f163 c158_0 c134_1 c5_1 c158_1
      · refine q_ifNo X134 hx hby at_59 ((if0 _ _).trans (feq hc157).1) ?_
        refine q_aload X134 hx hby at_62 rfl rfl ?_
        refine q_goto (pc := 64) X134 hx hby at_64 (pc' := 74) (by decide) (by decide) ?_
        refine q_astore X134 hx hby at_74 rfl (l' := #[vI x0, vI x1, vI x2, vI x3, vI x4, vI x5, vR r_1, vR r_5, vR r_9, vR r_134, vR r_5, vR r_9, uS, uS, uS, uS, uS]) rfl ?_
        have f166 := (((c1_0.keep Kc5 nin0 nin0).keep Kc9 nin0 nin0).keep Kc134 nin0 nin0)
        have f167 := ((c5_0.keep Kc9 nin0 nin0).keep Kc134 nin0 nin0)
        have f168 := (c9_0.keep Kc134 nin0 nin0)
        exact TL _ _ _ _ _ r_134 rb_134 r_5 rb_5 r_9 rb_9 cs_134 cs_5 cs_9 (X134.mono (by decide) (by decide)) hS134 hk134 hZ134 hown134 CR137 e134 N134 O135 f166 f167 f168 c134_0 f167 f168 c134_1 c5_1 c9_1
  · refine q_ifNo X9 hx hby at_22 ((if0 _ _).trans (feq hc133).1) ?_
    refine q_aload X9 hx hby at_25 rfl rfl ?_
    refine q_goto (pc := 27) X9 hx hby at_27 (pc' := 34) (by decide) (by decide) ?_
    refine q_astore X9 hx hby at_34 rfl (l' := #[vI x0, vI x1, vI x2, vI x3, vI x4, vI x5, vR r_1, vR r_5, vR r_9, vR r_1, uS, uS, uS, uS, uS, uS, uS]) rfl ?_
    refine q_iload X9 hx hby at_36 rfl ?_
    refine q_iconst X9 hx hby at_38 ?_
    refine q_iand X9 hx hby at_39 ?_
    by_cases hc169 : (x5 &&& (2 : Int32)) = (0 : Int32)
    · refine q_ifYes (pc := 40) X9 hx hby at_40 (pc' := 48) ((if0 _ _).trans (teq hc169).1) (by decide) (by decide) ?_
      show own_Goes p e below (T9.setTop (mkF m 48 #[vI x0, vI x1, vI x2, vI x3, vI x4, vI x5, vR r_1, vR r_5, vR r_9, vR r_1, uS, uS, uS, uS, uS, uS, uS] [])) _
      refine q_iload X9 hx hby at_48 rfl ?_
      obtain ⟨_, _, ⟨T170, L170, k170, n170⟩, -, X170, hS170, gr170, ⟨Lc170, hQ170, l170, y170, z170, cs170⟩, st170⟩ := Jvm.RoadKit.callSS X9 hx (y := own_m28) hown9 (mvT hZ9 (wh hw 0 rfl)) (mvT hZ9 (wh hw 1 rfl)) (mvT hZ9 (wh hw 2 rfl)) (mvT hZ9 (wh hw 3 rfl)) (by decide) (backOfSH (W := 0) (own_str l Z a0 hw [] x4 h9 n0 O10 gz gfm gwC gwM G) hZ9 (wh hw 3 rfl) (wh hw 2 rfl) (by decide) (by decide) (own_EW hw) CR12.1) (g := (mkF m 50 #[vI x0, vI x1, vI x2, vI x3, vI x4, vI x5, vR r_1, vR r_5, vR r_9, vR r_1, uS, uS, uS, uS, uS, uS, uS] [.int x4])) rfl (by rw [hml]; rfl) (argsL := [.int x4]) (rest := []) (lenOf own_pd_27 rfl) rfl (by show 2 * 0 + _ ≤ _; exact Nat.le_of_eq rfl) (hb hby at_50) (fun _ _ => ⟨rfl, e9, (by decide : 18 + 6 ≤ _), (by decide : 48 + 16 ≤ _)⟩)
      dsimp only [Pt.U, Pt.locs, Pt.cells, Pt.slots] at X170 l170 y170 z170 st170 hQ170 hS170 gr170 cs170
      subst l170 y170 z170
      obtain ⟨h170, e170⟩ : ∃ z, T170.heap = z := ⟨_, rfl⟩
      rw [e170] at hQ170 hS170 gr170 cs170
      obtain ⟨Nc170, Kc170, r_170, rb_170, cs_170, rfl, c170_0, c170_1, c170_2⟩ := hQ170
      obtain ⟨X170, hS170, hZ170, hown170⟩ := rebS (own := "com/example/circa_once/circaonce/model/ScopeOfPinLaw") hS9 (show _ ≤ T9.heap.size by rw [e9]; exact hk9) X170 hS170 gr170 hZ9 hown9
      have hk170 : h170.size ≤ h170.size := Nat.le_refl _
      have N170 := Fr.app N9 Nc170
      have O171 := O10.keep Kc170 all0
      have sz172 : h9.size ≤ h170.size := Kc170.1
      have CR173 := CHr.trans CR12 cs170
      have ltc170_0 : @LT.lt Nat _ r_170 h170.size := c170_0.1.lt
      have luc170_0 : @LT.lt Nat _ rb_170 h170.size := c170_0.lt2
      refine own_goS st170 ?_
      refine q_astore X170 hx hby at_53 rfl (l' := #[vI x0, vI x1, vI x2, vI x3, vI x4, vI x5, vR r_1, vR r_5, vR r_9, vR r_1, vR r_170, uS, uS, uS, uS, uS, uS]) rfl ?_
      refine q_iload X170 hx hby at_55 rfl ?_
      refine q_iconst X170 hx hby at_57 ?_
      refine q_iand X170 hx hby at_58 ?_
      by_cases hc174 : (x5 &&& (4 : Int32)) = (0 : Int32)
      · refine q_ifYes (pc := 59) X170 hx hby at_59 (pc' := 67) ((if0 _ _).trans (teq hc174).1) (by decide) (by decide) ?_
        refine q_iload X170 hx hby at_67 rfl ?_
        refine q_iconst X170 hx hby at_69 ?_
        refine gg (fun t k => XS.iushr X170.here hx rfl (hb hby at_70) rfl k) ?_
        obtain ⟨_, _, ⟨T175, L175, k175, n175⟩, -, X175, hS175, gr175, ⟨Lc175, hQ175, l175, y175, z175, cs175⟩, st175⟩ := Jvm.RoadKit.callSS X170 hx (y := own_m28) hown170 (mvT hZ170 (wh hw 0 rfl)) (mvT hZ170 (wh hw 1 rfl)) (mvT hZ170 (wh hw 2 rfl)) (mvT hZ170 (wh hw 3 rfl)) (by decide) (backOfSH (W := 0) (own_str l Z a0 hw [] ((x5.toUInt32 >>> ((3 : Int32) &&& 31).toUInt32).toInt32) h170 n0 O171 gz gfm gwC gwM G) hZ170 (wh hw 3 rfl) (wh hw 2 rfl) (by decide) (by decide) (own_EW hw) CR173.1) (g := (mkF m 71 #[vI x0, vI x1, vI x2, vI x3, vI x4, vI x5, vR r_1, vR r_5, vR r_9, vR r_1, vR r_170, uS, uS, uS, uS, uS, uS] [(.int ((x5.toUInt32 >>> ((3 : Int32) &&& 31).toUInt32).toInt32))])) rfl (by rw [hml]; rfl) (argsL := [(.int ((x5.toUInt32 >>> ((3 : Int32) &&& 31).toUInt32).toInt32))]) (rest := []) (lenOf own_pd_27 rfl) rfl (by show 2 * 0 + _ ≤ _; exact Nat.le_of_eq rfl) (hb hby at_71) (fun _ _ => ⟨rfl, e170, (by decide : 24 + 6 ≤ _), (by decide : 64 + 16 ≤ _)⟩)
        dsimp only [Pt.U, Pt.locs, Pt.cells, Pt.slots] at X175 l175 y175 z175 st175 hQ175 hS175 gr175 cs175
        subst l175 y175 z175
        obtain ⟨h175, e175⟩ : ∃ z, T175.heap = z := ⟨_, rfl⟩
        rw [e175] at hQ175 hS175 gr175 cs175
        obtain ⟨Nc175, Kc175, r_175, rb_175, cs_175, rfl, c175_0, c175_1, c175_2⟩ := hQ175
        obtain ⟨X175, hS175, hZ175, hown175⟩ := rebS (own := "com/example/circa_once/circaonce/model/ScopeOfPinLaw") hS170 (show _ ≤ T170.heap.size by rw [e170]; exact hk170) X175 hS175 gr175 hZ170 hown170
        have hk175 : h175.size ≤ h175.size := Nat.le_refl _
        have N175 := Fr.app N170 Nc175
        have O176 := O171.keep Kc175 all0
        have sz177 : h170.size ≤ h175.size := Kc175.1
        have CR178 := CHr.trans CR173 cs175
        have ltc175_0 : @LT.lt Nat _ r_175 h175.size := c175_0.1.lt
        have luc175_0 : @LT.lt Nat _ rb_175 h175.size := c175_0.lt2
        refine own_goS st175 ?_
        refine q_astore X175 hx hby at_74 rfl (l' := #[vI x0, vI x1, vI x2, vI x3, vI x4, vI x5, vR r_1, vR r_5, vR r_9, vR r_1, vR r_170, vR r_175, uS, uS, uS, uS, uS]) rfl ?_
        have f179 := ((((c1_0.keep Kc5 nin0 nin0).keep Kc9 nin0 nin0).keep Kc170 nin0 nin0).keep Kc175 nin0 nin0)
        have f180 := (((c5_0.keep Kc9 nin0 nin0).keep Kc170 nin0 nin0).keep Kc175 nin0 nin0)
        have f181 := ((c9_0.keep Kc170 nin0 nin0).keep Kc175 nin0 nin0)
        have f182 := (c170_0.keep Kc175 nin0 nin0)
        exact TL _ _ _ _ _ r_1 rb_1 r_170 rb_170 r_175 rb_175 cs_1 cs_170 cs_175 (X175.mono (by decide) (by decide)) hS175 hk175 hZ175 hown175 CR178 e175 N175 O176 f179 f180 f181 f179 f182 c175_0 c1_1 c170_1 c175_1
      · refine q_ifNo X170 hx hby at_59 ((if0 _ _).trans (feq hc174).1) ?_
        refine q_aload X170 hx hby at_62 rfl rfl ?_
        show own_Goes p e below (T170.setTop (mkF m 64 #[vI x0, vI x1, vI x2, vI x3, vI x4, vI x5, vR r_1, vR r_5, vR r_9, vR r_1, vR r_170, uS, uS, uS, uS, uS, uS] [.ref r_9])) _
        refine q_goto (pc := 64) X170 hx hby at_64 (pc' := 74) (by decide) (by decide) ?_
        refine q_astore X170 hx hby at_74 rfl (l' := #[vI x0, vI x1, vI x2, vI x3, vI x4, vI x5, vR r_1, vR r_5, vR r_9, vR r_1, vR r_170, vR r_9, uS, uS, uS, uS, uS]) rfl ?_
        have f183 := (((c1_0.keep Kc5 nin0 nin0).keep Kc9 nin0 nin0).keep Kc170 nin0 nin0)
        have f184 := ((c5_0.keep Kc9 nin0 nin0).keep Kc170 nin0 nin0)
        have f185 := (c9_0.keep Kc170 nin0 nin0)
        exact TL _ _ _ _ _ r_1 rb_1 r_170 rb_170 r_9 rb_9 cs_1 cs_170 cs_9 (X170.mono (by decide) (by decide)) hS170 hk170 hZ170 hown170 CR173 e170 N170 O171 f183 f184 f185 f183 c170_0 f185 c1_1 c170_1 c9_1
    · refine q_ifNo X9 hx hby at_40 ((if0 _ _).trans (feq hc169).1) ?_
      refine q_aload X9 hx hby at_43 rfl rfl ?_
      refine q_goto (pc := 45) X9 hx hby at_45 (pc' := 53) (by decide) (by decide) ?_
      refine q_astore X9 hx hby at_53 rfl (l' := #[vI x0, vI x1, vI x2, vI x3, vI x4, vI x5, vR r_1, vR r_5, vR r_9, vR r_1, vR r_5, uS, uS, uS, uS, uS, uS]) rfl ?_
      refine q_iload X9 hx hby at_55 rfl ?_
      refine q_iconst X9 hx hby at_57 ?_
      refine q_iand X9 hx hby at_58 ?_
      by_cases hc186 : (x5 &&& (4 : Int32)) = (0 : Int32)
      · refine q_ifYes (pc := 59) X9 hx hby at_59 (pc' := 67) ((if0 _ _).trans (teq hc186).1) (by decide) (by decide) ?_
        refine q_iload X9 hx hby at_67 rfl ?_
        refine q_iconst X9 hx hby at_69 ?_
        refine gg (fun t k => XS.iushr X9.here hx rfl (hb hby at_70) rfl k) ?_
        obtain ⟨_, _, ⟨T187, L187, k187, n187⟩, -, X187, hS187, gr187, ⟨Lc187, hQ187, l187, y187, z187, cs187⟩, st187⟩ := Jvm.RoadKit.callSS X9 hx (y := own_m28) hown9 (mvT hZ9 (wh hw 0 rfl)) (mvT hZ9 (wh hw 1 rfl)) (mvT hZ9 (wh hw 2 rfl)) (mvT hZ9 (wh hw 3 rfl)) (by decide) (backOfSH (W := 0) (own_str l Z a0 hw [] ((x5.toUInt32 >>> ((3 : Int32) &&& 31).toUInt32).toInt32) h9 n0 O10 gz gfm gwC gwM G) hZ9 (wh hw 3 rfl) (wh hw 2 rfl) (by decide) (by decide) (own_EW hw) CR12.1) (g := (mkF m 71 #[vI x0, vI x1, vI x2, vI x3, vI x4, vI x5, vR r_1, vR r_5, vR r_9, vR r_1, vR r_5, uS, uS, uS, uS, uS, uS] [(.int ((x5.toUInt32 >>> ((3 : Int32) &&& 31).toUInt32).toInt32))])) rfl (by rw [hml]; rfl) (argsL := [(.int ((x5.toUInt32 >>> ((3 : Int32) &&& 31).toUInt32).toInt32))]) (rest := []) (lenOf own_pd_27 rfl) rfl (by show 2 * 0 + _ ≤ _; exact Nat.le_of_eq rfl) (hb hby at_71) (fun _ _ => ⟨rfl, e9, (by decide : 18 + 6 ≤ _), (by decide : 48 + 16 ≤ _)⟩)
        dsimp only [Pt.U, Pt.locs, Pt.cells, Pt.slots] at X187 l187 y187 z187 st187 hQ187 hS187 gr187 cs187
        subst l187 y187 z187
        obtain ⟨h187, e187⟩ : ∃ z, T187.heap = z := ⟨_, rfl⟩
        rw [e187] at hQ187 hS187 gr187 cs187
        obtain ⟨Nc187, Kc187, r_187, rb_187, cs_187, rfl, c187_0, c187_1, c187_2⟩ := hQ187
        obtain ⟨X187, hS187, hZ187, hown187⟩ := rebS (own := "com/example/circa_once/circaonce/model/ScopeOfPinLaw") hS9 (show _ ≤ T9.heap.size by rw [e9]; exact hk9) X187 hS187 gr187 hZ9 hown9
        have hk187 : h187.size ≤ h187.size := Nat.le_refl _
        have N187 := Fr.app N9 Nc187
        have O188 := O10.keep Kc187 all0
        have sz189 : h9.size ≤ h187.size := Kc187.1
        have CR190 := CHr.trans CR12 cs187
        have ltc187_0 : @LT.lt Nat _ r_187 h187.size := c187_0.1.lt
        have luc187_0 : @LT.lt Nat _ rb_187 h187.size := c187_0.lt2
        refine own_goS st187 ?_
        show own_Goes p e below (T187.setTop (mkF m 74 #[vI x0, vI x1, vI x2, vI x3, vI x4, vI x5, vR r_1, vR r_5, vR r_9, vR r_1, vR r_5, uS, uS, uS, uS, uS, uS] [.ref r_187])) _
        refine q_astore X187 hx hby at_74 rfl (l' := #[vI x0, vI x1, vI x2, vI x3, vI x4, vI x5, vR r_1, vR r_5, vR r_9, vR r_1, vR r_5, vR r_187, uS, uS, uS, uS, uS]) rfl ?_
        have f191 := (((c1_0.keep Kc5 nin0 nin0).keep Kc9 nin0 nin0).keep Kc187 nin0 nin0)
        have f192 := ((c5_0.keep Kc9 nin0 nin0).keep Kc187 nin0 nin0)
        have f193 := (c9_0.keep Kc187 nin0 nin0)
        exact TL _ _ _ _ _ r_1 rb_1 r_5 rb_5 r_187 rb_187 cs_1 cs_5 cs_187 (X187.mono (by decide) (by decide)) hS187 hk187 hZ187 hown187 CR190 e187 N187 O188 f191 f192 f193 f191 f192 c187_0 c1_1 c5_1 c187_1
      · refine q_ifNo X9 hx hby at_59 ((if0 _ _).trans (feq hc186).1) ?_
        refine q_aload X9 hx hby at_62 rfl rfl ?_
        refine q_goto (pc := 64) X9 hx hby at_64 (pc' := 74) (by decide) (by decide) ?_
        refine q_astore X9 hx hby at_74 rfl (l' := #[vI x0, vI x1, vI x2, vI x3, vI x4, vI x5, vR r_1, vR r_5, vR r_9, vR r_1, vR r_5, vR r_9, uS, uS, uS, uS, uS]) rfl ?_
        have f194 := ((c1_0.keep Kc5 nin0 nin0).keep Kc9 nin0 nin0)
        have f195 := (c5_0.keep Kc9 nin0 nin0)
        exact TL _ _ _ _ _ r_1 rb_1 r_5 rb_5 r_9 rb_9 cs_1 cs_5 cs_9 (X9.mono (by decide) (by decide)) hS9 hk9 hZ9 hown9 CR12 e9 N9 O10 f194 f195 c9_0 f194 f195 c9_0 c1_1 c5_1 c9_1
theorem comes_1 {Post : Tables → Env → Array Value → State → Outcome → State → Prop} (hpost : ∀ tb e args s v u, (limb_1_1.after args s (.returned v) u = true ∧ limb_1_2.after args s (.returned v) u = true ∧ True) → ReturnedEndW s (.returned v) u (Jvm.fieldLocs frame_1_writes args s ++ Jvm.arrayLocs frame_1_arrays args s ++ Jvm.staticLocs frame_1_statics s) 72 6464 → Post tb e args s (.returned v) u) :
    ArmFor flags0 classFile x code maxLocals ret World_1 tables_1 room_1 Calls_1 rest_1 Pre_1 Post := by
  intro l hfl _ _ p e ha hc hk s m args below hf hA hF happ hP
  obtain ⟨hcalls, hrest, hpre⟩ := hP
  obtain ⟨-, -, -, hnamed, -, -, -, hat⟩ := (Spec.applies_iff hf).mp happ
  obtain ⟨hg, hn⟩ := and_e (Cond.before_iff.mp (show (Jvm.Cond.and given_1 narrow_1).before args s = true from hpre))
  obtain ⟨hg_1, hg_2⟩ := and_e hg
  obtain ⟨hg_3, hg_4⟩ := and_e hg_2
  obtain ⟨hg_5, hg_6⟩ := and_e hg_4
  obtain ⟨hg_7, hg_8⟩ := and_e hg_6
  obtain ⟨hg_9, hg_10⟩ := and_e hg_8
  obtain ⟨hg_11, hg_12⟩ := and_e hg_10
  obtain ⟨hn_1, hn_2⟩ := and_e hn
  obtain ⟨hn_3, hn_4⟩ := and_e hn_2
  obtain ⟨hn_5, hn_6⟩ := and_e hn_4
  obtain ⟨w0, w1, w2, w3, w4, w5, rfl⟩ : ∃ w0 w1 w2 w3 w4 w5 : Value, args = #[w0, w1, w2, w3, w4, w5] := by
    have hs : args.size = 6 := by simpa [Cond.value, given_1] using hg_1
    obtain ⟨L⟩ := args
    match L, hs with
    | [w0, w1, w2, w3, w4, w5], _ => exact ⟨w0, w1, w2, w3, w4, w5, rfl⟩
  have hw := fun d (hd : d ∈ tables_1) => atoms_spec (ws := Jvm.Cond.code x code maxLocals ret :: tables_1) hat d (List.mem_cons_of_mem _ hd)
  have hfit : Fit s := fun {y c} hc i hi => by
    obtain ⟨ha, rfl⟩ := Array.getElem?_eq_some_iff.mp hc
    have q := List.all_eq_true.mp ((Array.all_eq_true_iff_forall_mem.mp hF) _ (Array.getElem_mem ha)) i (List.mem_range.mpr hi)
    simpa [Array.getElem?_eq_getElem hi] using q
  obtain ⟨hsets, hown0⟩ := atoms_of _ (rest_1_c_eq ▸ (show rest_1_c.before _ s = true from hrest))
  have hr0 := Cond.before_iff.mp hown0
  obtain ⟨i0, ei0⟩ := is_v hg_3
  obtain rfl : w0 = (.int i0) := Option.some.inj ei0
  obtain ⟨i1, ei1⟩ := is_v hg_5
  obtain rfl : w1 = (.int i1) := Option.some.inj ei1
  obtain ⟨i2, ei2⟩ := is_v hg_7
  obtain rfl : w2 = (.int i2) := Option.some.inj ei2
  obtain ⟨i3, ei3⟩ := is_v hg_9
  obtain rfl : w3 = (.int i3) := Option.some.inj ei3
  obtain ⟨i4, ei4⟩ := is_v hg_11
  obtain rfl : w4 = (.int i4) := Option.some.inj ei4
  obtain ⟨i5, ei5⟩ := is_v hg_12
  obtain rfl : w5 = (.int i5) := Option.some.inj ei5
  obtain ⟨gz, ez⟩ := is_v (Cond.before_iff.mp (hsets _ (List.mem_of_getElem? (i := 1) rfl)))
  have sz_ := Sta.start ez (Or.inl (hsets _ (List.mem_of_getElem? (i := 0) rfl)))
  have nz_ : ¬ gz = (0 : Int32) := gotF (Cond.eq_ints ez (Term.int_eval _)) (not_v (Cond.before_iff.mp (hsets _ (List.mem_of_getElem? (i := 2) rfl))))
  obtain ⟨gfm, efm, rfm⟩ := isR_v (Cond.before_iff.mp (hsets _ (List.mem_of_getElem? (i := 8) rfl)))
  have sfm := Sta.start efm (Or.inl (hsets _ (List.mem_of_getElem? (i := 7) rfl)))
  have esas : (Term.static "java/lang/StringUTF16" "$assertionsDisabled" "Z").eval _ s none [] s = some (.int 1) := eqv_i (Term.int_eval _) (Cond.before_iff.mp (hsets _ (List.mem_of_getElem? (i := 12) rfl)))
  have sas := Sta.start esas (Or.inl (hsets _ (List.mem_of_getElem? (i := 11) rfl)))
  have eshi : (Term.static "java/lang/StringUTF16" "HI_BYTE_SHIFT" "I").eval _ s none [] s = some (.int 0) := eqv_i (Term.int_eval _) (Cond.before_iff.mp (hsets _ (List.mem_of_getElem? (i := 15) rfl)))
  have shi := Sta.start eshi (Or.inl (hsets _ (List.mem_of_getElem? (i := 14) rfl)))
  have eslo : (Term.static "java/lang/StringUTF16" "LO_BYTE_SHIFT" "I").eval _ s none [] s = some (.int 8) := eqv_i (Term.int_eval _) (Cond.before_iff.mp (hsets _ (List.mem_of_getElem? (i := 18) rfl)))
  have slo := Sta.start eslo (Or.inl (hsets _ (List.mem_of_getElem? (i := 17) rfl)))
  obtain ⟨gwC, evgwC⟩ := exa_v hn_1
  have sgwC := Sta.start evgwC (Or.inr ⟨(wh hw 92 rfl), (wh hw 93 rfl)⟩)
  have xgwC := Exa.start evgwC hn_1
  have fgwC : Fld s s.heap gwC "java/lang/Enum" "ordinal" "I" (.int 0) := Fld.start ((fld_at evgwC).symm.trans (eqv_i (Term.int_eval _) hn_5))
  obtain ⟨gwM, evgwM⟩ := exa_v hn_3
  have sgwM := Sta.start evgwM (Or.inr ⟨(wh hw 92 rfl), (wh hw 148 rfl)⟩)
  have xgwM := Exa.start evgwM hn_3
  have fgwM : Fld s s.heap gwM "java/lang/Enum" "ordinal" "I" (.int 1) := Fld.start ((fld_at evgwM).symm.trans (eqv_i (Term.int_eval _) hn_6))
  have nkk : ¬ gwM = gwC := Fld.ne fgwM fgwC (fun q => absurd (Value.int.inj q) (by decide))
  have hC0 : CHv s consts_1 s.vm s.heap := CHv.start (own_EW hw) hcalls.1 (hsets _ (List.mem_of_getElem? (i := 2) rfl)) (wh hw 19 rfl) (wh hw 5 rfl)
  obtain ⟨n, o, h1, h2, h3, _, L, rfl, ⟨N, -, rfl⟩, -, hq⟩ := rm0 l s _ hw tables_1 i0 i1 i2 i3 i4 i5 s.heap s.heap.size (Old.start s) gz gfm gwC gwM ⟨sz_, nz_, sas, shi, slo, sfm, rfm, sgwC, xgwC, sgwM, xgwM, nkk⟩ p e ha hc hk s m _ below hf ((Spec.applies_iff_loose hf).mp happ).1 ⟨rfl, State.Warmed39.refl s, rfl, hC0⟩ trivial
  refine ⟨n, _, h1, h2, h3, hpost _ _ _ _ _ _ ⟨Cond.after_iff.mpr rfl, Cond.after_iff.mpr (eq_i res_at (Term.int_eval (1)) rfl), trivial⟩ ⟨hq.1, hq.2.1, hq.2.2.1, (hq.2.2.2.sift fun y hy => Or.inr (N y hy)).mono (by decide) (by decide)⟩⟩
theorem main_1_1 : Claimed_1_1 := comes_1 fun _ _ _ _ _ _ h hF => ⟨h.1, hF⟩
theorem main_1_2 : Claimed_1_2 := comes_1 fun _ _ _ _ _ _ h hF => ⟨h.2.1, hF⟩
end Jvm.Pilot.@@N@@
namespace Jvm.Pilot.@@N@@
open Jvm Jvm.ClassFile Sem Op Lib Jvm.Free Jvm.Stand Jvm.Pilot.@@N@@.Jvm.D
/-! MADE BY PROGRAM (witnessworld.py) out of the Statement's table words and the real class files: 25 classes; the members and pool entries that the words name. The judged class is class 1, her method 2. -/
namespace start1
open Jvm.ClassFile
def u (s : String) : CpInfo := .utf8 (stringToUtf16 s)
/-- a pool by its gaps: so many unusable entries, then the entry; so many at the end -/
def gap : Nat → List CpInfo → List CpInfo
  | 0, r => r
  | n + 1, r => .unusable :: gap n r
def poolList (es : List (Nat × CpInfo)) (last : Nat) : List CpInfo := es.foldr (fun e r => gap e.1 (e.2 :: r)) (gap last [])
def pool (es : List (Nat × CpInfo)) (last : Nat) : Array CpInfo := ⟨poolList es last⟩
def fileOf (pool : Array CpInfo) (this : Nat) (attrs : Array Attribute := #[]) (ms : Array MethodInfo := #[]) (fl : Nat := 33) (sup : Nat := 0) (ifs : Array Nat := #[]) (fds : Array FieldInfo := #[]) : ClassFile where
  minorVersion := 0
  majorVersion := 65
  constantPool := pool
  accessFlags := fl
  thisClass := this
  superClass := sup
  interfaces := ifs
  fields := fds
  methods := ms
  attributes := attrs
def plain (name : String) (sup : Option ClassId) : Class where
  name := name
  kind := .ordinary
  loader := none
  accessFlags := 33
  super := sup
  interfaces := #[]
  cf := none
  fields := #[]
  methods := #[]
  instanceTypes := #[]
  staticTypes := #[]
  resolved := #[]
  callSites := []
  init := .initialized
  statics := none
  mirror := none

def pool0 : Array CpInfo := pool [(5, u "<init>"), (0, u "()V"), (1, .class_ 10), (1, u "java/lang/Object")] 113

def k0c0 : Code := { maxStack := 0, maxLocals := 1, code := object_method_1_code, exceptionTable := #[], attributes := #[] }
def k0m0 : Method := { name := "<init>", desc := "()V", sig := { parameters := [], returnType := none }, accessFlags := 1, code := some k0c0 }
/-- java/lang/Object -/
def k0 : Class := { plain "java/lang/Object" none with
  accessFlags := 33
  interfaces := #[]
  cf := some (fileOf pool0 8 #[] #[{ accessFlags := 1, nameIndex := 5, descriptorIndex := 6, attributes := #[] }] 33 0 #[] #[])
  fields := #[]
  methods := #[k0m0]
  instanceTypes := #[]
  staticTypes := #[]
  resolved := Array.replicate 124 none
  statics := none }

def pool1 : Array CpInfo := pool [(2, .class_ 4), (1, u "java/lang/Object"), (0, u "<init>"), (0, u "()V"), (0, .integer 55296), (0, .integer 56320), (0, .class_ 10), (0, u "java/lang/String"), (0, .methodref 9 12), (0, .nameAndType 5 13), (0, u "([C)V"), (0, .methodref 15 16), (0, .class_ 17), (0, .nameAndType 18 19), (0, u "com/example/circa_once/circaonce/model/ScopeOfPinLaw"), (0, u "str"), (0, u "(I)Ljava/lang/String;"), (0, .methodref 21 22), (0, .class_ 23), (0, .nameAndType 24 25), (0, u "com/example/circa_once/circaonce/model/Scope"), (0, u "of"), (0, u "(Ljava/lang/String;Ljava/lang/String;Ljava/lang/String;)Lcom/example/circa_once/circaonce/model/Scope;"), (0, .methodref 21 27), (0, .nameAndType 28 29), (0, u "kind"), (0, u "()Lcom/example/circa_once/circaonce/model/Scope$Kind;"), (0, .fieldref 31 32), (0, .class_ 33), (0, .nameAndType 34 35), (0, u "com/example/circa_once/circaonce/model/Scope$Kind"), (0, u "COMMAND"), (0, u "Lcom/example/circa_once/circaonce/model/Scope$Kind;"), (0, .methodref 21 37), (0, .nameAndType 38 39), (0, u "tenant"), (0, u "()Ljava/lang/String;"), (0, .methodref 9 41), (0, .nameAndType 42 43), (0, u "equals"), (0, u "(Ljava/lang/Object;)Z"), (0, .methodref 21 45), (0, .nameAndType 46 39), (0, u "caller"), (0, .methodref 21 48), (0, .nameAndType 49 39), (0, u "operation"), (0, .methodref 21 41), (0, .methodref 21 52), (0, .nameAndType 53 54), (0, u "ofConsumer"), (0, u "(Ljava/lang/String;)Lcom/example/circa_once/circaonce/model/Scope;"), (3, u "law"), (0, u "(IIIIII)Z")] 4

def k1m0 : Method := { name := "<init>", desc := "()V", sig := { parameters := [], returnType := none }, accessFlags := 2, code := none }
def k1c1 : Code := { maxStack := 6, maxLocals := 5, code := method_2_code, exceptionTable := #[], attributes := #[] }
def k1m1 : Method := { name := "str", desc := "(I)Ljava/lang/String;", sig := { parameters := [.int], returnType := some (.object "java/lang/String") }, accessFlags := 10, code := some k1c1 }
def k1c2 : Code := { maxStack := 3, maxLocals := 17, code := code, exceptionTable := #[], attributes := #[] }
def k1m2 : Method := { name := "law", desc := "(IIIIII)Z", sig := { parameters := [.int, .int, .int, .int, .int, .int], returnType := some .boolean }, accessFlags := 9, code := some k1c2 }
/-- com/example/circa_once/circaonce/model/ScopeOfPinLaw -/
def k1 : Class := { plain "com/example/circa_once/circaonce/model/ScopeOfPinLaw" (some 0) with
  accessFlags := 49
  interfaces := #[]
  cf := some (fileOf pool1 15 #[] #[{ accessFlags := 2, nameIndex := 5, descriptorIndex := 6, attributes := #[] }, { accessFlags := 10, nameIndex := 18, descriptorIndex := 19, attributes := #[] }, { accessFlags := 9, nameIndex := 58, descriptorIndex := 59, attributes := #[] }] 49 2 #[] #[])
  fields := #[]
  methods := #[k1m0, k1m1, k1m2]
  instanceTypes := #[]
  staticTypes := #[]
  resolved := Array.replicate 64 none
  statics := none }

def pool2 : Array CpInfo := pool [(1, .class_ 2), (0, u "java/io/Serializable"), (0, .class_ 4), (0, u "java/lang/Object")] 2

/-- java/io/Serializable -/
def k2 : Class := { plain "java/io/Serializable" (some 0) with
  accessFlags := 1537
  interfaces := #[]
  cf := some (fileOf pool2 1 #[] #[] 1537 3 #[] #[])
  fields := #[]
  methods := #[]
  instanceTypes := #[]
  staticTypes := #[]
  resolved := Array.replicate 7 none
  statics := none }

def pool3 : Array CpInfo := pool [(1, .class_ 2), (0, u "java/lang/Comparable"), (0, .class_ 4), (0, u "java/lang/Object")] 7

/-- java/lang/Comparable -/
def k3 : Class := { plain "java/lang/Comparable" (some 0) with
  accessFlags := 1537
  interfaces := #[]
  cf := some (fileOf pool3 1 #[] #[] 1537 3 #[] #[])
  fields := #[]
  methods := #[]
  instanceTypes := #[]
  staticTypes := #[]
  resolved := Array.replicate 12 none
  statics := none }

def pool4 : Array CpInfo := pool [(2, .class_ 4), (1, u "java/lang/CharSequence"), (42, .class_ 48), (0, u "java/lang/CharSequence$1CodePointIterator"), (10, .class_ 60), (0, u "java/lang/CharSequence$1CharIterator"), (5, .class_ 67), (0, u "java/lang/Object")] 63

/-- java/lang/CharSequence -/
def k4 : Class := { plain "java/lang/CharSequence" (some 0) with
  accessFlags := 1537
  interfaces := #[]
  cf := some (fileOf pool4 2 #[.nestMembers #[47, 59]] #[] 1537 66 #[] #[])
  fields := #[]
  methods := #[]
  instanceTypes := #[]
  staticTypes := #[]
  resolved := Array.replicate 131 none
  statics := none }

def pool5 : Array CpInfo := pool [(1, .class_ 2), (0, u "java/lang/constant/Constable"), (0, .class_ 4), (0, u "java/lang/Object")] 6

/-- java/lang/constant/Constable -/
def k5 : Class := { plain "java/lang/constant/Constable" (some 0) with
  accessFlags := 1537
  interfaces := #[]
  cf := some (fileOf pool5 1 #[] #[] 1537 3 #[] #[])
  fields := #[]
  methods := #[]
  instanceTypes := #[]
  staticTypes := #[]
  resolved := Array.replicate 11 none
  statics := none }

def pool6 : Array CpInfo := pool [(1, .class_ 2), (0, u "java/lang/constant/ConstantDesc"), (0, .class_ 4), (0, u "java/lang/Object")] 32

/-- java/lang/constant/ConstantDesc -/
def k6 : Class := { plain "java/lang/constant/ConstantDesc" (some 0) with
  accessFlags := 1537
  interfaces := #[]
  cf := some (fileOf pool6 1 #[] #[] 1537 3 #[] #[])
  fields := #[]
  methods := #[]
  instanceTypes := #[]
  staticTypes := #[]
  resolved := Array.replicate 37 none
  statics := none }

def pool7 : Array CpInfo := pool [(1, .methodref 2 3), (0, .class_ 4), (0, .nameAndType 5 6), (0, u "java/lang/Object"), (0, u "<init>"), (0, u "()V"), (0, .string 8), (0, u ""), (0, .fieldref 10 11), (0, .class_ 12), (0, .nameAndType 13 14), (0, u "java/lang/String"), (0, u "value"), (0, u "[B"), (0, .fieldref 10 16), (0, .nameAndType 17 18), (0, u "coder"), (0, u "B"), (2, u "hash"), (0, u "I"), (2, u "hashIsZero"), (0, u "Z"), (0, .methodref 10 28), (0, .nameAndType 5 29), (0, u "([CIILjava/lang/Void;)V"), (8, .fieldref 10 39), (0, .nameAndType 40 26), (0, u "COMPACT_STRINGS"), (1, .class_ 44), (1, u "java/lang/StringUTF16"), (0, u "compress"), (1, .methodref 42 48), (0, .nameAndType 49 50), (0, u "coderFromArrayLen"), (0, u "([BI)B"), (56, .class_ 109), (1, u "java/lang/StringLatin1"), (32, u "()Z"), (34, .methodref 42 178), (0, .nameAndType 45 179), (0, u "([CII)[B"), (154, u "()I"), (0, .methodref 10 336), (0, .nameAndType 17 337), (0, u "()B"), (25, u "([BI)C"), (27, u "(II)V"), (35, u "(I)C"), (64, .methodref 10 493), (0, .nameAndType 494 142), (0, u "isLatin1"), (0, .methodref 107 496), (0, .nameAndType 497 363), (0, u "charAt"), (0, .methodref 42 496), (2, u "checkIndex"), (5, u "length"), (33, .methodref 107 542), (0, .nameAndType 543 544), (0, u "equals"), (0, u "([B[B)Z"), (28, u "(Ljava/lang/Object;)Z"), (1, .class_ 576), (0, u "java/lang/CharSequence"), (22, u "CASE_INSENSITIVE_ORDER"), (0, u "Ljava/util/Comparator;"), (409, u "([C)V"), (42, .fieldref 1054 1055), (0, .class_ 1056), (0, .nameAndType 1057 1058), (0, u "jdk/internal/util/Preconditions"), (0, u "SIOOBE_FORMATTER"), (0, u "Ljava/util/function/BiFunction;"), (0, .methodref 1054 1060), (0, .nameAndType 501 1061), (0, u "(IILjava/util/function/BiFunction;)I"), (39, u "serialPersistentFields"), (0, u "[Ljava/io/ObjectStreamField;"), (0, .class_ 1104), (0, u "java/lang/String$CaseInsensitiveComparator"), (1, .class_ 1107), (0, u "java/io/Serializable"), (0, .class_ 1109), (0, u "java/lang/Comparable"), (0, .class_ 1111), (0, u "java/lang/constant/Constable"), (0, .class_ 1113), (0, u "java/lang/constant/ConstantDesc"), (2, u "serialVersionUID"), (0, u "J"), (3, u "REPL"), (0, u "C"), (2, u "LATIN1"), (1, u "UTF16")] 323

def k7m0 : Method := { name := "<init>", desc := "()V", sig := { parameters := [], returnType := none }, accessFlags := 1, code := none }
def k7c1 : Code := { maxStack := 5, maxLocals := 2, code := jdk_42_method_3_code, exceptionTable := #[], attributes := #[] }
def k7m1 : Method := { name := "<init>", desc := "([C)V", sig := { parameters := [(.array .char)], returnType := none }, accessFlags := 1, code := some k7c1 }
def k7c2 : Code := { maxStack := 2, maxLocals := 1, code := jdk_42_method_54_code, exceptionTable := #[], attributes := #[] }
def k7m2 : Method := { name := "length", desc := "()I", sig := { parameters := [], returnType := some .int }, accessFlags := 1, code := some k7c2 }
def k7c3 : Code := { maxStack := 2, maxLocals := 2, code := jdk_42_method_56_code, exceptionTable := #[], attributes := #[] }
def k7m3 : Method := { name := "charAt", desc := "(I)C", sig := { parameters := [.int], returnType := some .char }, accessFlags := 1, code := some k7c3 }
def k7c4 : Code := { maxStack := 2, maxLocals := 3, code := jdk_42_method_66_code, exceptionTable := #[], attributes := #[] }
def k7m4 : Method := { name := "equals", desc := "(Ljava/lang/Object;)Z", sig := { parameters := [(.object "java/lang/Object")], returnType := some .boolean }, accessFlags := 1, code := some k7c4 }
def k7c5 : Code := { maxStack := 4, maxLocals := 6, code := jdk_42_method_149_code, exceptionTable := #[], attributes := #[] }
def k7m5 : Method := { name := "<init>", desc := "([CIILjava/lang/Void;)V", sig := { parameters := [(.array .char), .int, .int, (.object "java/lang/Void")], returnType := none }, accessFlags := 2, code := some k7c5 }
def k7c6 : Code := { maxStack := 1, maxLocals := 1, code := jdk_42_method_152_code, exceptionTable := #[], attributes := #[] }
def k7m6 : Method := { name := "coder", desc := "()B", sig := { parameters := [], returnType := some .byte }, accessFlags := 0, code := some k7c6 }
def k7c7 : Code := { maxStack := 1, maxLocals := 1, code := jdk_42_method_154_code, exceptionTable := #[], attributes := #[] }
def k7m7 : Method := { name := "isLatin1", desc := "()Z", sig := { parameters := [], returnType := some .boolean }, accessFlags := 0, code := some k7c7 }
def k7c8 : Code := { maxStack := 3, maxLocals := 2, code := jdk_42_method_155_code, exceptionTable := #[], attributes := #[] }
def k7m8 : Method := { name := "checkIndex", desc := "(II)V", sig := { parameters := [.int, .int], returnType := none }, accessFlags := 8, code := some k7c8 }
/-- java/lang/String -/
def k7 : Class := { plain "java/lang/String" (some 0) with
  accessFlags := 49
  interfaces := #[2, 3, 4, 5, 6]
  cf := some (fileOf pool7 10 #[.nestMembers #[1103]] #[{ accessFlags := 1, nameIndex := 5, descriptorIndex := 6, attributes := #[] }, { accessFlags := 1, nameIndex := 5, descriptorIndex := 1010, attributes := #[] }, { accessFlags := 1, nameIndex := 507, descriptorIndex := 334, attributes := #[] }, { accessFlags := 1, nameIndex := 497, descriptorIndex := 427, attributes := #[] }, { accessFlags := 1, nameIndex := 543, descriptorIndex := 573, attributes := #[] }, { accessFlags := 2, nameIndex := 5, descriptorIndex := 29, attributes := #[] }, { accessFlags := 0, nameIndex := 17, descriptorIndex := 337, attributes := #[] }, { accessFlags := 0, nameIndex := 494, descriptorIndex := 142, attributes := #[] }, { accessFlags := 8, nameIndex := 501, descriptorIndex := 391, attributes := #[] }] 49 2 #[1106, 1108, 575, 1110, 1112] #[{ accessFlags := 18, nameIndex := 13, descriptorIndex := 14, attributes := #[] }, { accessFlags := 18, nameIndex := 17, descriptorIndex := 18, attributes := #[] }, { accessFlags := 2, nameIndex := 21, descriptorIndex := 22, attributes := #[] }, { accessFlags := 2, nameIndex := 25, descriptorIndex := 26, attributes := #[] }, { accessFlags := 26, nameIndex := 1116, descriptorIndex := 1117, attributes := #[] }, { accessFlags := 24, nameIndex := 40, descriptorIndex := 26, attributes := #[] }, { accessFlags := 26, nameIndex := 1101, descriptorIndex := 1102, attributes := #[] }, { accessFlags := 26, nameIndex := 1121, descriptorIndex := 1122, attributes := #[] }, { accessFlags := 25, nameIndex := 599, descriptorIndex := 600, attributes := #[] }, { accessFlags := 24, nameIndex := 1125, descriptorIndex := 18, attributes := #[] }, { accessFlags := 24, nameIndex := 1127, descriptorIndex := 18, attributes := #[] }])
  fields := #[{ name := "value", type := (.array .byte), accessFlags := 18, slot := 0, constantValue := 0 }, { name := "coder", type := .byte, accessFlags := 18, slot := 1, constantValue := 0 }, { name := "hash", type := .int, accessFlags := 2, slot := 2, constantValue := 0 }, { name := "hashIsZero", type := .boolean, accessFlags := 2, slot := 3, constantValue := 0 }, { name := "serialVersionUID", type := .long, accessFlags := 26, slot := 0, constantValue := 0 }, { name := "COMPACT_STRINGS", type := .boolean, accessFlags := 24, slot := 1, constantValue := 0 }, { name := "serialPersistentFields", type := (.array (.object "java/io/ObjectStreamField")), accessFlags := 26, slot := 2, constantValue := 0 }, { name := "REPL", type := .char, accessFlags := 26, slot := 3, constantValue := 0 }, { name := "CASE_INSENSITIVE_ORDER", type := (.object "java/util/Comparator"), accessFlags := 25, slot := 4, constantValue := 0 }, { name := "LATIN1", type := .byte, accessFlags := 24, slot := 5, constantValue := 0 }, { name := "UTF16", type := .byte, accessFlags := 24, slot := 6, constantValue := 0 }]
  methods := #[k7m0, k7m1, k7m2, k7m3, k7m4, k7m5, k7m6, k7m7, k7m8]
  instanceTypes := #[(.array .byte), .byte, .int, .boolean]
  staticTypes := #[.long, .boolean, (.array (.object "java/io/ObjectStreamField")), .char, (.object "java/util/Comparator"), .byte, .byte]
  resolved := Array.replicate 1451 none
  statics := some 0 }

def pool8 : Array CpInfo := pool [(3, .class_ 4), (0, u "java/lang/String"), (1, .class_ 8), (1, u "java/lang/Object"), (0, u "<init>"), (0, u "()V"), (0, .methodref 12 13), (0, .class_ 14), (0, .nameAndType 15 16), (0, u "java/lang/StringUTF16"), (0, u "newBytesLength"), (0, u "(I)I"), (3, .integer 1073741823), (23, .fieldref 12 45), (0, .nameAndType 46 47), (0, u "$assertionsDisabled"), (0, u "Z"), (0, .methodref 12 49), (0, .nameAndType 50 51), (0, u "length"), (0, u "([B)I"), (7, .fieldref 12 60), (0, .nameAndType 61 62), (0, u "HI_BYTE_SHIFT"), (0, u "I"), (0, .fieldref 12 64), (0, .nameAndType 65 62), (0, u "LO_BYTE_SHIFT"), (1, .methodref 12 68), (0, .nameAndType 69 70), (0, u "checkIndex"), (0, u "(I[B)V"), (0, .methodref 12 72), (0, .nameAndType 73 74), (0, u "getChar"), (0, u "([BI)C"), (32, .methodref 12 108), (0, .nameAndType 109 110), (0, u "newBytesFor"), (0, u "(I)[B"), (0, .methodref 12 112), (0, .nameAndType 113 114), (0, u "putChar"), (0, u "([BII)V"), (0, .methodref 12 116), (0, .nameAndType 117 118), (0, u "compress"), (0, u "([CI[BII)I"), (0, .methodref 12 120), (0, .nameAndType 121 122), (0, u "toBytes"), (0, u "([CII)[B"), (138, u "coderFromArrayLen"), (0, u "([BI)B"), (106, .class_ 371), (1, u "java/lang/StringUTF16$LinesSpliterator"), (20, u "charAt"), (21, .methodref 3 415), (0, .nameAndType 69 416), (0, u "(II)V"), (13, u "MAX_LENGTH"), (196, .class_ 628), (0, u "java/lang/StringUTF16$CodePointsSpliterator"), (0, .class_ 630), (0, u "java/lang/StringUTF16$CharsSpliterator")] 4

def k8m0 : Method := { name := "<init>", desc := "()V", sig := { parameters := [], returnType := none }, accessFlags := 0, code := none }
def k8c1 : Code := { maxStack := 1, maxLocals := 1, code := jdk_52_method_2_code, exceptionTable := #[], attributes := #[] }
def k8m1 : Method := { name := "newBytesFor", desc := "(I)[B", sig := { parameters := [.int], returnType := some (.array .byte) }, accessFlags := 9, code := some k8c1 }
def k8c2 : Code := { maxStack := 4, maxLocals := 1, code := jdk_52_method_3_code, exceptionTable := #[], attributes := #[] }
def k8m2 : Method := { name := "newBytesLength", desc := "(I)I", sig := { parameters := [.int], returnType := some .int }, accessFlags := 9, code := some k8c2 }
def k8c3 : Code := { maxStack := 4, maxLocals := 3, code := jdk_52_method_4_code, exceptionTable := #[], attributes := #[] }
def k8m3 : Method := { name := "putChar", desc := "([BII)V", sig := { parameters := [(.array .byte), .int, .int], returnType := none }, accessFlags := 8, code := some k8c3 }
def k8c4 : Code := { maxStack := 3, maxLocals := 2, code := jdk_52_method_5_code, exceptionTable := #[], attributes := #[] }
def k8m4 : Method := { name := "getChar", desc := "([BI)C", sig := { parameters := [(.array .byte), .int], returnType := some .char }, accessFlags := 8, code := some k8c4 }
def k8c5 : Code := { maxStack := 2, maxLocals := 1, code := jdk_52_method_6_code, exceptionTable := #[], attributes := #[] }
def k8m5 : Method := { name := "length", desc := "([B)I", sig := { parameters := [(.array .byte)], returnType := some .int }, accessFlags := 9, code := some k8c5 }
def k8c6 : Code := { maxStack := 4, maxLocals := 5, code := jdk_52_method_14_code, exceptionTable := #[], attributes := #[] }
def k8m6 : Method := { name := "toBytes", desc := "([CII)[B", sig := { parameters := [(.array .char), .int, .int], returnType := some (.array .byte) }, accessFlags := 9, code := some k8c6 }
def k8c7 : Code := { maxStack := 2, maxLocals := 2, code := jdk_52_method_15_code, exceptionTable := #[], attributes := #[] }
def k8m7 : Method := { name := "coderFromArrayLen", desc := "([BI)B", sig := { parameters := [(.array .byte), .int], returnType := some .byte }, accessFlags := 8, code := some k8c7 }
def k8c8 : Code := { maxStack := 5, maxLocals := 6, code := jdk_52_method_16_code, exceptionTable := #[], attributes := #[] }
def k8m8 : Method := { name := "compress", desc := "([CII)[B", sig := { parameters := [(.array .char), .int, .int], returnType := some (.array .byte) }, accessFlags := 9, code := some k8c8 }
def k8c9 : Code := { maxStack := 3, maxLocals := 7, code := jdk_52_method_21_code, exceptionTable := #[], attributes := #[] }
def k8m9 : Method := { name := "compress", desc := "([CI[BII)I", sig := { parameters := [(.array .char), .int, (.array .byte), .int, .int], returnType := some .int }, accessFlags := 9, code := some k8c9 }
def k8c10 : Code := { maxStack := 2, maxLocals := 2, code := jdk_52_method_83_code, exceptionTable := #[], attributes := #[] }
def k8m10 : Method := { name := "charAt", desc := "([BI)C", sig := { parameters := [(.array .byte), .int], returnType := some .char }, accessFlags := 9, code := some k8c10 }
def k8c11 : Code := { maxStack := 2, maxLocals := 2, code := jdk_52_method_91_code, exceptionTable := #[], attributes := #[] }
def k8m11 : Method := { name := "checkIndex", desc := "(I[B)V", sig := { parameters := [.int, (.array .byte)], returnType := none }, accessFlags := 9, code := some k8c11 }
/-- java/lang/StringUTF16 -/
def k8 : Class := { plain "java/lang/StringUTF16" (some 0) with
  accessFlags := 48
  interfaces := #[]
  cf := some (fileOf pool8 12 #[.nestMembers #[627, 629, 369]] #[{ accessFlags := 0, nameIndex := 9, descriptorIndex := 10, attributes := #[] }, { accessFlags := 9, nameIndex := 109, descriptorIndex := 110, attributes := #[] }, { accessFlags := 9, nameIndex := 15, descriptorIndex := 16, attributes := #[] }, { accessFlags := 8, nameIndex := 113, descriptorIndex := 114, attributes := #[] }, { accessFlags := 8, nameIndex := 73, descriptorIndex := 74, attributes := #[] }, { accessFlags := 9, nameIndex := 50, descriptorIndex := 51, attributes := #[] }, { accessFlags := 9, nameIndex := 121, descriptorIndex := 122, attributes := #[] }, { accessFlags := 8, nameIndex := 261, descriptorIndex := 262, attributes := #[] }, { accessFlags := 9, nameIndex := 117, descriptorIndex := 122, attributes := #[] }, { accessFlags := 9, nameIndex := 117, descriptorIndex := 118, attributes := #[] }, { accessFlags := 9, nameIndex := 392, descriptorIndex := 74, attributes := #[] }, { accessFlags := 9, nameIndex := 69, descriptorIndex := 70, attributes := #[] }] 48 6 #[] #[{ accessFlags := 26, nameIndex := 61, descriptorIndex := 62, attributes := #[] }, { accessFlags := 26, nameIndex := 65, descriptorIndex := 62, attributes := #[] }, { accessFlags := 24, nameIndex := 430, descriptorIndex := 62, attributes := #[] }, { accessFlags := 4120, nameIndex := 46, descriptorIndex := 47, attributes := #[] }])
  fields := #[{ name := "HI_BYTE_SHIFT", type := .int, accessFlags := 26, slot := 0, constantValue := 0 }, { name := "LO_BYTE_SHIFT", type := .int, accessFlags := 26, slot := 1, constantValue := 0 }, { name := "MAX_LENGTH", type := .int, accessFlags := 24, slot := 2, constantValue := 0 }, { name := "$assertionsDisabled", type := .boolean, accessFlags := 4120, slot := 3, constantValue := 0 }]
  methods := #[k8m0, k8m1, k8m2, k8m3, k8m4, k8m5, k8m6, k8m7, k8m8, k8m9, k8m10, k8m11]
  instanceTypes := #[]
  staticTypes := #[.int, .int, .int, .boolean]
  resolved := Array.replicate 635 none
  statics := some 1 }

def pool9 : Array CpInfo := pool [(1, .methodref 2 3), (0, .class_ 4), (0, .nameAndType 5 6), (0, u "java/lang/Object"), (0, u "<init>"), (0, u "()V"), (0, .fieldref 8 9), (0, .class_ 10), (0, .nameAndType 11 12), (0, u "com/example/circa_once/circaonce/model/Scope"), (0, u "kind"), (0, u "Lcom/example/circa_once/circaonce/model/Scope$Kind;"), (0, .fieldref 8 14), (0, .nameAndType 15 16), (0, u "tenant"), (0, u "Ljava/lang/String;"), (0, .fieldref 8 18), (0, .nameAndType 19 16), (0, u "caller"), (0, .fieldref 8 21), (0, .nameAndType 22 16), (0, u "operation"), (0, .string 15), (0, .methodref 25 26), (0, .class_ 27), (0, .nameAndType 28 29), (0, u "com/example/circa_once/circaonce/model/StorableText"), (0, u "require"), (0, u "(Ljava/lang/String;Ljava/lang/String;)Ljava/lang/String;"), (0, .string 19), (0, .string 22), (0, .fieldref 33 34), (0, .class_ 35), (0, .nameAndType 36 12), (0, u "com/example/circa_once/circaonce/model/Scope$Kind"), (0, u "COMMAND"), (0, .methodref 8 38), (0, .nameAndType 5 39), (0, u "(Lcom/example/circa_once/circaonce/model/Scope$Kind;Ljava/lang/String;Ljava/lang/String;Ljava/lang/String;)V"), (0, .string 41), (0, u "consumer"), (0, .fieldref 33 43), (0, .nameAndType 44 12), (0, u "MESSAGE"), (0, .string 46), (0, u ""), (0, .methodref 48 49), (0, .class_ 50), (0, .nameAndType 51 52), (0, u "java/lang/String"), (0, u "equals"), (0, u "(Ljava/lang/Object;)Z"), (15, u "of"), (0, u "(Ljava/lang/String;Ljava/lang/String;Ljava/lang/String;)Lcom/example/circa_once/circaonce/model/Scope;"), (0, u "ofConsumer"), (0, u "(Ljava/lang/String;)Lcom/example/circa_once/circaonce/model/Scope;"), (0, u "()Lcom/example/circa_once/circaonce/model/Scope$Kind;"), (0, u "()Ljava/lang/String;")] 25

def k9c0 : Code := { maxStack := 2, maxLocals := 5, code := prog_13_method_1_code, exceptionTable := #[], attributes := #[] }
def k9m0 : Method := { name := "<init>", desc := "(Lcom/example/circa_once/circaonce/model/Scope$Kind;Ljava/lang/String;Ljava/lang/String;Ljava/lang/String;)V", sig := { parameters := [(.object "com/example/circa_once/circaonce/model/Scope$Kind"), (.object "java/lang/String"), (.object "java/lang/String"), (.object "java/lang/String")], returnType := none }, accessFlags := 2, code := some k9c0 }
def k9c1 : Code := { maxStack := 6, maxLocals := 3, code := prog_13_method_2_code, exceptionTable := #[], attributes := #[] }
def k9m1 : Method := { name := "of", desc := "(Ljava/lang/String;Ljava/lang/String;Ljava/lang/String;)Lcom/example/circa_once/circaonce/model/Scope;", sig := { parameters := [(.object "java/lang/String"), (.object "java/lang/String"), (.object "java/lang/String")], returnType := some (.object "com/example/circa_once/circaonce/model/Scope") }, accessFlags := 9, code := some k9c1 }
def k9c2 : Code := { maxStack := 6, maxLocals := 1, code := prog_13_method_3_code, exceptionTable := #[], attributes := #[] }
def k9m2 : Method := { name := "ofConsumer", desc := "(Ljava/lang/String;)Lcom/example/circa_once/circaonce/model/Scope;", sig := { parameters := [(.object "java/lang/String")], returnType := some (.object "com/example/circa_once/circaonce/model/Scope") }, accessFlags := 9, code := some k9c2 }
def k9c3 : Code := { maxStack := 1, maxLocals := 1, code := prog_13_method_4_code, exceptionTable := #[], attributes := #[] }
def k9m3 : Method := { name := "kind", desc := "()Lcom/example/circa_once/circaonce/model/Scope$Kind;", sig := { parameters := [], returnType := some (.object "com/example/circa_once/circaonce/model/Scope$Kind") }, accessFlags := 1, code := some k9c3 }
def k9c4 : Code := { maxStack := 1, maxLocals := 1, code := prog_13_method_5_code, exceptionTable := #[], attributes := #[] }
def k9m4 : Method := { name := "tenant", desc := "()Ljava/lang/String;", sig := { parameters := [], returnType := some (.object "java/lang/String") }, accessFlags := 1, code := some k9c4 }
def k9c5 : Code := { maxStack := 1, maxLocals := 1, code := prog_13_method_6_code, exceptionTable := #[], attributes := #[] }
def k9m5 : Method := { name := "caller", desc := "()Ljava/lang/String;", sig := { parameters := [], returnType := some (.object "java/lang/String") }, accessFlags := 1, code := some k9c5 }
def k9c6 : Code := { maxStack := 1, maxLocals := 1, code := prog_13_method_7_code, exceptionTable := #[], attributes := #[] }
def k9m6 : Method := { name := "operation", desc := "()Ljava/lang/String;", sig := { parameters := [], returnType := some (.object "java/lang/String") }, accessFlags := 1, code := some k9c6 }
def k9c7 : Code := { maxStack := 2, maxLocals := 3, code := prog_13_method_8_code, exceptionTable := #[], attributes := #[] }
def k9m7 : Method := { name := "equals", desc := "(Ljava/lang/Object;)Z", sig := { parameters := [(.object "java/lang/Object")], returnType := some .boolean }, accessFlags := 1, code := some k9c7 }
/-- com/example/circa_once/circaonce/model/Scope -/
def k9 : Class := { plain "com/example/circa_once/circaonce/model/Scope" (some 0) with
  accessFlags := 49
  interfaces := #[]
  cf := some (fileOf pool9 8 #[.nestMembers #[33]] #[{ accessFlags := 2, nameIndex := 5, descriptorIndex := 39, attributes := #[] }, { accessFlags := 9, nameIndex := 68, descriptorIndex := 69, attributes := #[] }, { accessFlags := 9, nameIndex := 70, descriptorIndex := 71, attributes := #[] }, { accessFlags := 1, nameIndex := 11, descriptorIndex := 72, attributes := #[] }, { accessFlags := 1, nameIndex := 15, descriptorIndex := 73, attributes := #[] }, { accessFlags := 1, nameIndex := 19, descriptorIndex := 73, attributes := #[] }, { accessFlags := 1, nameIndex := 22, descriptorIndex := 73, attributes := #[] }, { accessFlags := 1, nameIndex := 51, descriptorIndex := 52, attributes := #[] }] 49 2 #[] #[{ accessFlags := 18, nameIndex := 11, descriptorIndex := 12, attributes := #[] }, { accessFlags := 18, nameIndex := 15, descriptorIndex := 16, attributes := #[] }, { accessFlags := 18, nameIndex := 19, descriptorIndex := 16, attributes := #[] }, { accessFlags := 18, nameIndex := 22, descriptorIndex := 16, attributes := #[] }])
  fields := #[{ name := "kind", type := (.object "com/example/circa_once/circaonce/model/Scope$Kind"), accessFlags := 18, slot := 0, constantValue := 0 }, { name := "tenant", type := (.object "java/lang/String"), accessFlags := 18, slot := 1, constantValue := 0 }, { name := "caller", type := (.object "java/lang/String"), accessFlags := 18, slot := 2, constantValue := 0 }, { name := "operation", type := (.object "java/lang/String"), accessFlags := 18, slot := 3, constantValue := 0 }]
  methods := #[k9m0, k9m1, k9m2, k9m3, k9m4, k9m5, k9m6, k9m7]
  instanceTypes := #[(.object "com/example/circa_once/circaonce/model/Scope$Kind"), (.object "java/lang/String"), (.object "java/lang/String"), (.object "java/lang/String")]
  staticTypes := #[]
  resolved := Array.replicate 99 none
  statics := none }

def pool10 : Array CpInfo := pool [(2, .class_ 4), (1, u "java/lang/Object"), (0, u "<init>"), (0, u "()V"), (0, .methodref 8 9), (0, .class_ 10), (0, .nameAndType 11 12), (0, u "java/util/Objects"), (0, u "requireNonNull"), (0, u "(Ljava/lang/Object;Ljava/lang/String;)Ljava/lang/Object;"), (0, .methodref 14 15), (0, .class_ 16), (0, .nameAndType 17 18), (0, u "java/lang/String"), (0, u "length"), (0, u "()I"), (0, .methodref 14 20), (0, .nameAndType 21 22), (0, u "charAt"), (0, u "(I)C"), (9, .methodref 33 34), (0, .class_ 35), (0, .nameAndType 36 37), (0, u "java/lang/Character"), (0, u "isSurrogate"), (0, u "(C)Z"), (0, .methodref 33 39), (0, .nameAndType 40 37), (0, u "isHighSurrogate"), (0, .methodref 33 42), (0, .nameAndType 43 37), (0, u "isLowSurrogate"), (1, .class_ 46), (0, u "com/example/circa_once/circaonce/model/StorableText"), (2, u "require"), (0, u "(Ljava/lang/String;Ljava/lang/String;)Ljava/lang/String;")] 20

def k10m0 : Method := { name := "<init>", desc := "()V", sig := { parameters := [], returnType := none }, accessFlags := 2, code := none }
def k10c1 : Code := { maxStack := 3, maxLocals := 6, code := prog_16_method_2_code, exceptionTable := #[], attributes := #[] }
def k10m1 : Method := { name := "require", desc := "(Ljava/lang/String;Ljava/lang/String;)Ljava/lang/String;", sig := { parameters := [(.object "java/lang/String"), (.object "java/lang/String")], returnType := some (.object "java/lang/String") }, accessFlags := 8, code := some k10c1 }
/-- com/example/circa_once/circaonce/model/StorableText -/
def k10 : Class := { plain "com/example/circa_once/circaonce/model/StorableText" (some 0) with
  accessFlags := 48
  interfaces := #[]
  cf := some (fileOf pool10 45 #[] #[{ accessFlags := 2, nameIndex := 5, descriptorIndex := 6, attributes := #[] }, { accessFlags := 8, nameIndex := 49, descriptorIndex := 50, attributes := #[] }] 48 2 #[] #[])
  fields := #[]
  methods := #[k10m0, k10m1]
  instanceTypes := #[]
  staticTypes := #[]
  resolved := Array.replicate 71 none
  statics := none }

def pool11 : Array CpInfo := pool [(2, .class_ 4), (1, u "java/lang/Object"), (0, u "<init>"), (0, u "()V"), (35, .class_ 44), (1, u "java/util/Objects"), (0, u "requireNonNull"), (48, u "(Ljava/lang/Object;Ljava/lang/String;)Ljava/lang/Object;")] 89

def k11m0 : Method := { name := "<init>", desc := "()V", sig := { parameters := [], returnType := none }, accessFlags := 2, code := none }
def k11c1 : Code := { maxStack := 3, maxLocals := 2, code := jdk_31_method_11_code, exceptionTable := #[], attributes := #[] }
def k11m1 : Method := { name := "requireNonNull", desc := "(Ljava/lang/Object;Ljava/lang/String;)Ljava/lang/Object;", sig := { parameters := [(.object "java/lang/Object"), (.object "java/lang/String")], returnType := some (.object "java/lang/Object") }, accessFlags := 9, code := some k11c1 }
/-- java/util/Objects -/
def k11 : Class := { plain "java/util/Objects" (some 0) with
  accessFlags := 49
  interfaces := #[]
  cf := some (fileOf pool11 42 #[] #[{ accessFlags := 2, nameIndex := 5, descriptorIndex := 6, attributes := #[] }, { accessFlags := 9, nameIndex := 45, descriptorIndex := 94, attributes := #[] }] 49 2 #[] #[])
  fields := #[]
  methods := #[k11m0, k11m1]
  instanceTypes := #[]
  staticTypes := #[]
  resolved := Array.replicate 184 none
  statics := none }

def pool12 : Array CpInfo := pool [(1, .class_ 2), (0, u "java/lang/String"), (1, .class_ 6), (1, u "java/lang/Object"), (0, u "<init>"), (0, u "()V"), (0, .methodref 1 10), (0, .nameAndType 11 12), (0, u "checkIndex"), (0, u "(II)V"), (1, .class_ 16), (1, u "java/lang/StringLatin1"), (36, u "([BI)C"), (67, u "$assertionsDisabled"), (0, u "Z"), (98, .class_ 223), (1, u "java/lang/StringLatin1$LinesSpliterator"), (28, u "charAt"), (28, u "equals"), (0, u "([B[B)Z"), (107, .class_ 391), (0, u "java/lang/StringLatin1$CharsSpliterator")] 3

def k12m0 : Method := { name := "<init>", desc := "()V", sig := { parameters := [], returnType := none }, accessFlags := 0, code := none }
def k12c1 : Code := { maxStack := 2, maxLocals := 2, code := jdk_43_method_2_code, exceptionTable := #[], attributes := #[] }
def k12m1 : Method := { name := "charAt", desc := "([BI)C", sig := { parameters := [(.array .byte), .int], returnType := some .char }, accessFlags := 9, code := some k12c1 }
def k12c2 : Code := { maxStack := 3, maxLocals := 3, code := jdk_43_method_13_code, exceptionTable := #[], attributes := #[] }
def k12m2 : Method := { name := "equals", desc := "([B[B)Z", sig := { parameters := [(.array .byte), (.array .byte)], returnType := some .boolean }, accessFlags := 9, code := some k12c2 }
/-- java/lang/StringLatin1 -/
def k12 : Class := { plain "java/lang/StringLatin1" (some 0) with
  accessFlags := 48
  interfaces := #[]
  cf := some (fileOf pool12 14 #[.nestMembers #[390, 221]] #[{ accessFlags := 0, nameIndex := 7, descriptorIndex := 8, attributes := #[] }, { accessFlags := 9, nameIndex := 252, descriptorIndex := 53, attributes := #[] }, { accessFlags := 9, nameIndex := 281, descriptorIndex := 282, attributes := #[] }] 48 4 #[] #[{ accessFlags := 4120, nameIndex := 121, descriptorIndex := 122, attributes := #[] }])
  fields := #[{ name := "$assertionsDisabled", type := .boolean, accessFlags := 4120, slot := 0, constantValue := 0 }]
  methods := #[k12m0, k12m1, k12m2]
  instanceTypes := #[]
  staticTypes := #[.boolean]
  resolved := Array.replicate 395 none
  statics := none }

def pool13 : Array CpInfo := pool [(2, .class_ 4), (1, u "java/lang/Object"), (0, u "<init>"), (0, u "()V"), (17, .class_ 26), (1, u "jdk/internal/util/Preconditions"), (6, u "checkIndex"), (21, .class_ 56), (0, u "jdk/internal/util/Preconditions$4"), (57, .class_ 115), (0, u "jdk/internal/util/Preconditions$1"), (7, u "SIOOBE_FORMATTER"), (0, u "Ljava/util/function/BiFunction;"), (0, .class_ 126), (0, u "jdk/internal/util/Preconditions$2"), (3, u "AIOOBE_FORMATTER"), (0, .class_ 132), (0, u "jdk/internal/util/Preconditions$3"), (3, u "IOOBE_FORMATTER"), (41, u "(IILjava/util/function/BiFunction;)I")] 15

def k13m0 : Method := { name := "<init>", desc := "()V", sig := { parameters := [], returnType := none }, accessFlags := 1, code := none }
def k13c1 : Code := { maxStack := 3, maxLocals := 3, code := jdk_41_method_11_code, exceptionTable := #[], attributes := #[] }
def k13m1 : Method := { name := "checkIndex", desc := "(IILjava/util/function/BiFunction;)I", sig := { parameters := [.int, .int, (.object "java/util/function/BiFunction")], returnType := some .int }, accessFlags := 9, code := some k13c1 }
/-- jdk/internal/util/Preconditions -/
def k13 : Class := { plain "jdk/internal/util/Preconditions" (some 0) with
  accessFlags := 33
  interfaces := #[]
  cf := some (fileOf pool13 24 #[.nestMembers #[55, 131, 125, 114]] #[{ accessFlags := 1, nameIndex := 5, descriptorIndex := 6, attributes := #[] }, { accessFlags := 9, nameIndex := 33, descriptorIndex := 178, attributes := #[] }] 33 2 #[] #[{ accessFlags := 25, nameIndex := 123, descriptorIndex := 124, attributes := #[] }, { accessFlags := 25, nameIndex := 130, descriptorIndex := 124, attributes := #[] }, { accessFlags := 25, nameIndex := 136, descriptorIndex := 124, attributes := #[] }])
  fields := #[{ name := "SIOOBE_FORMATTER", type := (.object "java/util/function/BiFunction"), accessFlags := 25, slot := 0, constantValue := 0 }, { name := "AIOOBE_FORMATTER", type := (.object "java/util/function/BiFunction"), accessFlags := 25, slot := 1, constantValue := 0 }, { name := "IOOBE_FORMATTER", type := (.object "java/util/function/BiFunction"), accessFlags := 25, slot := 2, constantValue := 0 }]
  methods := #[k13m0, k13m1]
  instanceTypes := #[]
  staticTypes := #[(.object "java/util/function/BiFunction"), (.object "java/util/function/BiFunction"), (.object "java/util/function/BiFunction")]
  resolved := Array.replicate 194 none
  statics := some 2 }

def pool14 : Array CpInfo := pool [(1, .class_ 2), (0, u "java/lang/Character"), (18, u "value"), (0, u "C"), (19, .class_ 44), (1, u "java/lang/Object"), (3, .class_ 50), (1, u "java/lang/Character$CharacterCache"), (24, .integer 55296), (0, .integer 56320), (0, .integer 57344), (2, u "isHighSurrogate"), (0, u "(C)Z"), (2, u "isLowSurrogate"), (199, u "$assertionsDisabled"), (0, u "Z"), (21, .class_ 309), (1, u "java/lang/Character$UnicodeBlock"), (73, u "TYPE"), (0, u "Ljava/lang/Class;"), (0, .class_ 386), (0, u "java/io/Serializable"), (0, .class_ 388), (0, u "java/lang/Comparable"), (0, .class_ 390), (0, u "java/lang/constant/Constable"), (0, u "MIN_RADIX"), (0, u "I"), (2, u "MAX_RADIX"), (1, u "MIN_VALUE"), (1, u "MAX_VALUE"), (3, u "UNASSIGNED"), (0, u "B"), (0, u "UPPERCASE_LETTER"), (1, u "LOWERCASE_LETTER"), (0, u "TITLECASE_LETTER"), (1, u "MODIFIER_LETTER"), (1, u "OTHER_LETTER"), (1, u "NON_SPACING_MARK"), (1, u "ENCLOSING_MARK"), (1, u "COMBINING_SPACING_MARK"), (1, u "DECIMAL_DIGIT_NUMBER"), (1, u "LETTER_NUMBER"), (1, u "OTHER_NUMBER"), (1, u "SPACE_SEPARATOR"), (1, u "LINE_SEPARATOR"), (1, u "PARAGRAPH_SEPARATOR"), (1, u "CONTROL"), (1, u "FORMAT"), (1, u "PRIVATE_USE"), (1, u "SURROGATE"), (1, u "DASH_PUNCTUATION"), (1, u "START_PUNCTUATION"), (1, u "END_PUNCTUATION"), (1, u "CONNECTOR_PUNCTUATION"), (1, u "OTHER_PUNCTUATION"), (1, u "MATH_SYMBOL"), (1, u "CURRENCY_SYMBOL"), (1, u "MODIFIER_SYMBOL"), (1, u "OTHER_SYMBOL"), (1, u "INITIAL_QUOTE_PUNCTUATION"), (1, u "FINAL_QUOTE_PUNCTUATION"), (1, u "ERROR"), (1, u "DIRECTIONALITY_UNDEFINED"), (0, u "DIRECTIONALITY_LEFT_TO_RIGHT"), (0, u "DIRECTIONALITY_RIGHT_TO_LEFT"), (0, u "DIRECTIONALITY_RIGHT_TO_LEFT_ARABIC"), (0, u "DIRECTIONALITY_EUROPEAN_NUMBER"), (0, u "DIRECTIONALITY_EUROPEAN_NUMBER_SEPARATOR"), (0, u "DIRECTIONALITY_EUROPEAN_NUMBER_TERMINATOR"), (0, u "DIRECTIONALITY_ARABIC_NUMBER"), (0, u "DIRECTIONALITY_COMMON_NUMBER_SEPARATOR"), (0, u "DIRECTIONALITY_NONSPACING_MARK"), (0, u "DIRECTIONALITY_BOUNDARY_NEUTRAL"), (0, u "DIRECTIONALITY_PARAGRAPH_SEPARATOR"), (0, u "DIRECTIONALITY_SEGMENT_SEPARATOR"), (0, u "DIRECTIONALITY_WHITESPACE"), (0, u "DIRECTIONALITY_OTHER_NEUTRALS"), (0, u "DIRECTIONALITY_LEFT_TO_RIGHT_EMBEDDING"), (0, u "DIRECTIONALITY_LEFT_TO_RIGHT_OVERRIDE"), (0, u "DIRECTIONALITY_RIGHT_TO_LEFT_EMBEDDING"), (0, u "DIRECTIONALITY_RIGHT_TO_LEFT_OVERRIDE"), (1, u "DIRECTIONALITY_POP_DIRECTIONAL_FORMAT"), (0, u "DIRECTIONALITY_LEFT_TO_RIGHT_ISOLATE"), (0, u "DIRECTIONALITY_RIGHT_TO_LEFT_ISOLATE"), (0, u "DIRECTIONALITY_FIRST_STRONG_ISOLATE"), (0, u "DIRECTIONALITY_POP_DIRECTIONAL_ISOLATE"), (0, u "MIN_HIGH_SURROGATE"), (0, u "MAX_HIGH_SURROGATE"), (1, u "MIN_LOW_SURROGATE"), (0, u "MAX_LOW_SURROGATE"), (1, u "MIN_SURROGATE"), (0, u "MAX_SURROGATE"), (0, u "MIN_SUPPLEMENTARY_CODE_POINT"), (0, u "MIN_CODE_POINT"), (0, u "MAX_CODE_POINT"), (1, u "serialVersionUID"), (0, u "J"), (2, u "SIZE"), (0, u "BYTES"), (24, u "isSurrogate"), (63, .class_ 596), (0, u "java/lang/Character$UnicodeScript"), (0, .class_ 598), (0, u "java/lang/Character$Subset")] 5

def k14c0 : Code := { maxStack := 2, maxLocals := 1, code := jdk_89_method_14_code, exceptionTable := #[], attributes := #[] }
def k14m0 : Method := { name := "isHighSurrogate", desc := "(C)Z", sig := { parameters := [.char], returnType := some .boolean }, accessFlags := 9, code := some k14c0 }
def k14c1 : Code := { maxStack := 2, maxLocals := 1, code := jdk_89_method_15_code, exceptionTable := #[], attributes := #[] }
def k14m1 : Method := { name := "isLowSurrogate", desc := "(C)Z", sig := { parameters := [.char], returnType := some .boolean }, accessFlags := 9, code := some k14c1 }
def k14c2 : Code := { maxStack := 2, maxLocals := 1, code := jdk_89_method_16_code, exceptionTable := #[], attributes := #[] }
def k14m2 : Method := { name := "isSurrogate", desc := "(C)Z", sig := { parameters := [.char], returnType := some .boolean }, accessFlags := 9, code := some k14c2 }
/-- java/lang/Character -/
def k14 : Class := { plain "java/lang/Character" (some 0) with
  accessFlags := 49
  interfaces := #[2, 3, 5]
  cf := some (fileOf pool14 1 #[.nestMembers #[48, 595, 307, 597]] #[{ accessFlags := 9, nameIndex := 80, descriptorIndex := 81, attributes := #[] }, { accessFlags := 9, nameIndex := 84, descriptorIndex := 81, attributes := #[] }, { accessFlags := 9, nameIndex := 531, descriptorIndex := 81, attributes := #[] }] 49 42 #[385, 387, 389] #[{ accessFlags := 25, nameIndex := 391, descriptorIndex := 392, attributes := #[] }, { accessFlags := 25, nameIndex := 395, descriptorIndex := 392, attributes := #[] }, { accessFlags := 25, nameIndex := 397, descriptorIndex := 22, attributes := #[] }, { accessFlags := 25, nameIndex := 399, descriptorIndex := 22, attributes := #[] }, { accessFlags := 25, nameIndex := 383, descriptorIndex := 384, attributes := #[] }, { accessFlags := 25, nameIndex := 403, descriptorIndex := 404, attributes := #[] }, { accessFlags := 25, nameIndex := 405, descriptorIndex := 404, attributes := #[] }, { accessFlags := 25, nameIndex := 407, descriptorIndex := 404, attributes := #[] }, { accessFlags := 25, nameIndex := 408, descriptorIndex := 404, attributes := #[] }, { accessFlags := 25, nameIndex := 410, descriptorIndex := 404, attributes := #[] }, { accessFlags := 25, nameIndex := 412, descriptorIndex := 404, attributes := #[] }, { accessFlags := 25, nameIndex := 414, descriptorIndex := 404, attributes := #[] }, { accessFlags := 25, nameIndex := 416, descriptorIndex := 404, attributes := #[] }, { accessFlags := 25, nameIndex := 418, descriptorIndex := 404, attributes := #[] }, { accessFlags := 25, nameIndex := 420, descriptorIndex := 404, attributes := #[] }, { accessFlags := 25, nameIndex := 422, descriptorIndex := 404, attributes := #[] }, { accessFlags := 25, nameIndex := 424, descriptorIndex := 404, attributes := #[] }, { accessFlags := 25, nameIndex := 426, descriptorIndex := 404, attributes := #[] }, { accessFlags := 25, nameIndex := 428, descriptorIndex := 404, attributes := #[] }, { accessFlags := 25, nameIndex := 430, descriptorIndex := 404, attributes := #[] }, { accessFlags := 25, nameIndex := 432, descriptorIndex := 404, attributes := #[] }, { accessFlags := 25, nameIndex := 434, descriptorIndex := 404, attributes := #[] }, { accessFlags := 25, nameIndex := 436, descriptorIndex := 404, attributes := #[] }, { accessFlags := 25, nameIndex := 438, descriptorIndex := 404, attributes := #[] }, { accessFlags := 25, nameIndex := 440, descriptorIndex := 404, attributes := #[] }, { accessFlags := 25, nameIndex := 442, descriptorIndex := 404, attributes := #[] }, { accessFlags := 25, nameIndex := 444, descriptorIndex := 404, attributes := #[] }, { accessFlags := 25, nameIndex := 446, descriptorIndex := 404, attributes := #[] }, { accessFlags := 25, nameIndex := 448, descriptorIndex := 404, attributes := #[] }, { accessFlags := 25, nameIndex := 450, descriptorIndex := 404, attributes := #[] }, { accessFlags := 25, nameIndex := 452, descriptorIndex := 404, attributes := #[] }, { accessFlags := 25, nameIndex := 454, descriptorIndex := 404, attributes := #[] }, { accessFlags := 25, nameIndex := 456, descriptorIndex := 404, attributes := #[] }, { accessFlags := 25, nameIndex := 458, descriptorIndex := 404, attributes := #[] }, { accessFlags := 25, nameIndex := 460, descriptorIndex := 404, attributes := #[] }, { accessFlags := 24, nameIndex := 462, descriptorIndex := 392, attributes := #[] }, { accessFlags := 25, nameIndex := 464, descriptorIndex := 404, attributes := #[] }, { accessFlags := 25, nameIndex := 465, descriptorIndex := 404, attributes := #[] }, { accessFlags := 25, nameIndex := 466, descriptorIndex := 404, attributes := #[] }, { accessFlags := 25, nameIndex := 467, descriptorIndex := 404, attributes := #[] }, { accessFlags := 25, nameIndex := 468, descriptorIndex := 404, attributes := #[] }, { accessFlags := 25, nameIndex := 469, descriptorIndex := 404, attributes := #[] }, { accessFlags := 25, nameIndex := 470, descriptorIndex := 404, attributes := #[] }, { accessFlags := 25, nameIndex := 471, descriptorIndex := 404, attributes := #[] }, { accessFlags := 25, nameIndex := 472, descriptorIndex := 404, attributes := #[] }, { accessFlags := 25, nameIndex := 473, descriptorIndex := 404, attributes := #[] }, { accessFlags := 25, nameIndex := 474, descriptorIndex := 404, attributes := #[] }, { accessFlags := 25, nameIndex := 475, descriptorIndex := 404, attributes := #[] }, { accessFlags := 25, nameIndex := 476, descriptorIndex := 404, attributes := #[] }, { accessFlags := 25, nameIndex := 477, descriptorIndex := 404, attributes := #[] }, { accessFlags := 25, nameIndex := 478, descriptorIndex := 404, attributes := #[] }, { accessFlags := 25, nameIndex := 479, descriptorIndex := 404, attributes := #[] }, { accessFlags := 25, nameIndex := 480, descriptorIndex := 404, attributes := #[] }, { accessFlags := 25, nameIndex := 481, descriptorIndex := 404, attributes := #[] }, { accessFlags := 25, nameIndex := 482, descriptorIndex := 404, attributes := #[] }, { accessFlags := 25, nameIndex := 484, descriptorIndex := 404, attributes := #[] }, { accessFlags := 25, nameIndex := 485, descriptorIndex := 404, attributes := #[] }, { accessFlags := 25, nameIndex := 486, descriptorIndex := 404, attributes := #[] }, { accessFlags := 25, nameIndex := 487, descriptorIndex := 404, attributes := #[] }, { accessFlags := 25, nameIndex := 488, descriptorIndex := 404, attributes := #[] }, { accessFlags := 25, nameIndex := 489, descriptorIndex := 22, attributes := #[] }, { accessFlags := 25, nameIndex := 490, descriptorIndex := 22, attributes := #[] }, { accessFlags := 25, nameIndex := 492, descriptorIndex := 22, attributes := #[] }, { accessFlags := 25, nameIndex := 493, descriptorIndex := 22, attributes := #[] }, { accessFlags := 25, nameIndex := 495, descriptorIndex := 22, attributes := #[] }, { accessFlags := 25, nameIndex := 496, descriptorIndex := 22, attributes := #[] }, { accessFlags := 25, nameIndex := 497, descriptorIndex := 392, attributes := #[] }, { accessFlags := 25, nameIndex := 498, descriptorIndex := 392, attributes := #[] }, { accessFlags := 25, nameIndex := 499, descriptorIndex := 392, attributes := #[] }, { accessFlags := 18, nameIndex := 21, descriptorIndex := 22, attributes := #[] }, { accessFlags := 26, nameIndex := 501, descriptorIndex := 502, attributes := #[] }, { accessFlags := 25, nameIndex := 505, descriptorIndex := 392, attributes := #[] }, { accessFlags := 25, nameIndex := 506, descriptorIndex := 392, attributes := #[] }, { accessFlags := 4120, nameIndex := 284, descriptorIndex := 285, attributes := #[] }])
  fields := #[{ name := "MIN_RADIX", type := .int, accessFlags := 25, slot := 0, constantValue := 0 }, { name := "MAX_RADIX", type := .int, accessFlags := 25, slot := 1, constantValue := 0 }, { name := "MIN_VALUE", type := .char, accessFlags := 25, slot := 2, constantValue := 0 }, { name := "MAX_VALUE", type := .char, accessFlags := 25, slot := 3, constantValue := 0 }, { name := "TYPE", type := (.object "java/lang/Class"), accessFlags := 25, slot := 4, constantValue := 0 }, { name := "UNASSIGNED", type := .byte, accessFlags := 25, slot := 5, constantValue := 0 }, { name := "UPPERCASE_LETTER", type := .byte, accessFlags := 25, slot := 6, constantValue := 0 }, { name := "LOWERCASE_LETTER", type := .byte, accessFlags := 25, slot := 7, constantValue := 0 }, { name := "TITLECASE_LETTER", type := .byte, accessFlags := 25, slot := 8, constantValue := 0 }, { name := "MODIFIER_LETTER", type := .byte, accessFlags := 25, slot := 9, constantValue := 0 }, { name := "OTHER_LETTER", type := .byte, accessFlags := 25, slot := 10, constantValue := 0 }, { name := "NON_SPACING_MARK", type := .byte, accessFlags := 25, slot := 11, constantValue := 0 }, { name := "ENCLOSING_MARK", type := .byte, accessFlags := 25, slot := 12, constantValue := 0 }, { name := "COMBINING_SPACING_MARK", type := .byte, accessFlags := 25, slot := 13, constantValue := 0 }, { name := "DECIMAL_DIGIT_NUMBER", type := .byte, accessFlags := 25, slot := 14, constantValue := 0 }, { name := "LETTER_NUMBER", type := .byte, accessFlags := 25, slot := 15, constantValue := 0 }, { name := "OTHER_NUMBER", type := .byte, accessFlags := 25, slot := 16, constantValue := 0 }, { name := "SPACE_SEPARATOR", type := .byte, accessFlags := 25, slot := 17, constantValue := 0 }, { name := "LINE_SEPARATOR", type := .byte, accessFlags := 25, slot := 18, constantValue := 0 }, { name := "PARAGRAPH_SEPARATOR", type := .byte, accessFlags := 25, slot := 19, constantValue := 0 }, { name := "CONTROL", type := .byte, accessFlags := 25, slot := 20, constantValue := 0 }, { name := "FORMAT", type := .byte, accessFlags := 25, slot := 21, constantValue := 0 }, { name := "PRIVATE_USE", type := .byte, accessFlags := 25, slot := 22, constantValue := 0 }, { name := "SURROGATE", type := .byte, accessFlags := 25, slot := 23, constantValue := 0 }, { name := "DASH_PUNCTUATION", type := .byte, accessFlags := 25, slot := 24, constantValue := 0 }, { name := "START_PUNCTUATION", type := .byte, accessFlags := 25, slot := 25, constantValue := 0 }, { name := "END_PUNCTUATION", type := .byte, accessFlags := 25, slot := 26, constantValue := 0 }, { name := "CONNECTOR_PUNCTUATION", type := .byte, accessFlags := 25, slot := 27, constantValue := 0 }, { name := "OTHER_PUNCTUATION", type := .byte, accessFlags := 25, slot := 28, constantValue := 0 }, { name := "MATH_SYMBOL", type := .byte, accessFlags := 25, slot := 29, constantValue := 0 }, { name := "CURRENCY_SYMBOL", type := .byte, accessFlags := 25, slot := 30, constantValue := 0 }, { name := "MODIFIER_SYMBOL", type := .byte, accessFlags := 25, slot := 31, constantValue := 0 }, { name := "OTHER_SYMBOL", type := .byte, accessFlags := 25, slot := 32, constantValue := 0 }, { name := "INITIAL_QUOTE_PUNCTUATION", type := .byte, accessFlags := 25, slot := 33, constantValue := 0 }, { name := "FINAL_QUOTE_PUNCTUATION", type := .byte, accessFlags := 25, slot := 34, constantValue := 0 }, { name := "ERROR", type := .int, accessFlags := 24, slot := 35, constantValue := 0 }, { name := "DIRECTIONALITY_UNDEFINED", type := .byte, accessFlags := 25, slot := 36, constantValue := 0 }, { name := "DIRECTIONALITY_LEFT_TO_RIGHT", type := .byte, accessFlags := 25, slot := 37, constantValue := 0 }, { name := "DIRECTIONALITY_RIGHT_TO_LEFT", type := .byte, accessFlags := 25, slot := 38, constantValue := 0 }, { name := "DIRECTIONALITY_RIGHT_TO_LEFT_ARABIC", type := .byte, accessFlags := 25, slot := 39, constantValue := 0 }, { name := "DIRECTIONALITY_EUROPEAN_NUMBER", type := .byte, accessFlags := 25, slot := 40, constantValue := 0 }, { name := "DIRECTIONALITY_EUROPEAN_NUMBER_SEPARATOR", type := .byte, accessFlags := 25, slot := 41, constantValue := 0 }, { name := "DIRECTIONALITY_EUROPEAN_NUMBER_TERMINATOR", type := .byte, accessFlags := 25, slot := 42, constantValue := 0 }, { name := "DIRECTIONALITY_ARABIC_NUMBER", type := .byte, accessFlags := 25, slot := 43, constantValue := 0 }, { name := "DIRECTIONALITY_COMMON_NUMBER_SEPARATOR", type := .byte, accessFlags := 25, slot := 44, constantValue := 0 }, { name := "DIRECTIONALITY_NONSPACING_MARK", type := .byte, accessFlags := 25, slot := 45, constantValue := 0 }, { name := "DIRECTIONALITY_BOUNDARY_NEUTRAL", type := .byte, accessFlags := 25, slot := 46, constantValue := 0 }, { name := "DIRECTIONALITY_PARAGRAPH_SEPARATOR", type := .byte, accessFlags := 25, slot := 47, constantValue := 0 }, { name := "DIRECTIONALITY_SEGMENT_SEPARATOR", type := .byte, accessFlags := 25, slot := 48, constantValue := 0 }, { name := "DIRECTIONALITY_WHITESPACE", type := .byte, accessFlags := 25, slot := 49, constantValue := 0 }, { name := "DIRECTIONALITY_OTHER_NEUTRALS", type := .byte, accessFlags := 25, slot := 50, constantValue := 0 }, { name := "DIRECTIONALITY_LEFT_TO_RIGHT_EMBEDDING", type := .byte, accessFlags := 25, slot := 51, constantValue := 0 }, { name := "DIRECTIONALITY_LEFT_TO_RIGHT_OVERRIDE", type := .byte, accessFlags := 25, slot := 52, constantValue := 0 }, { name := "DIRECTIONALITY_RIGHT_TO_LEFT_EMBEDDING", type := .byte, accessFlags := 25, slot := 53, constantValue := 0 }, { name := "DIRECTIONALITY_RIGHT_TO_LEFT_OVERRIDE", type := .byte, accessFlags := 25, slot := 54, constantValue := 0 }, { name := "DIRECTIONALITY_POP_DIRECTIONAL_FORMAT", type := .byte, accessFlags := 25, slot := 55, constantValue := 0 }, { name := "DIRECTIONALITY_LEFT_TO_RIGHT_ISOLATE", type := .byte, accessFlags := 25, slot := 56, constantValue := 0 }, { name := "DIRECTIONALITY_RIGHT_TO_LEFT_ISOLATE", type := .byte, accessFlags := 25, slot := 57, constantValue := 0 }, { name := "DIRECTIONALITY_FIRST_STRONG_ISOLATE", type := .byte, accessFlags := 25, slot := 58, constantValue := 0 }, { name := "DIRECTIONALITY_POP_DIRECTIONAL_ISOLATE", type := .byte, accessFlags := 25, slot := 59, constantValue := 0 }, { name := "MIN_HIGH_SURROGATE", type := .char, accessFlags := 25, slot := 60, constantValue := 0 }, { name := "MAX_HIGH_SURROGATE", type := .char, accessFlags := 25, slot := 61, constantValue := 0 }, { name := "MIN_LOW_SURROGATE", type := .char, accessFlags := 25, slot := 62, constantValue := 0 }, { name := "MAX_LOW_SURROGATE", type := .char, accessFlags := 25, slot := 63, constantValue := 0 }, { name := "MIN_SURROGATE", type := .char, accessFlags := 25, slot := 64, constantValue := 0 }, { name := "MAX_SURROGATE", type := .char, accessFlags := 25, slot := 65, constantValue := 0 }, { name := "MIN_SUPPLEMENTARY_CODE_POINT", type := .int, accessFlags := 25, slot := 66, constantValue := 0 }, { name := "MIN_CODE_POINT", type := .int, accessFlags := 25, slot := 67, constantValue := 0 }, { name := "MAX_CODE_POINT", type := .int, accessFlags := 25, slot := 68, constantValue := 0 }, { name := "value", type := .char, accessFlags := 18, slot := 0, constantValue := 0 }, { name := "serialVersionUID", type := .long, accessFlags := 26, slot := 69, constantValue := 0 }, { name := "SIZE", type := .int, accessFlags := 25, slot := 70, constantValue := 0 }, { name := "BYTES", type := .int, accessFlags := 25, slot := 71, constantValue := 0 }, { name := "$assertionsDisabled", type := .boolean, accessFlags := 4120, slot := 72, constantValue := 0 }]
  methods := #[k14m0, k14m1, k14m2]
  instanceTypes := #[.char]
  staticTypes := #[.int, .int, .char, .char, (.object "java/lang/Class"), .byte, .byte, .byte, .byte, .byte, .byte, .byte, .byte, .byte, .byte, .byte, .byte, .byte, .byte, .byte, .byte, .byte, .byte, .byte, .byte, .byte, .byte, .byte, .byte, .byte, .byte, .byte, .byte, .byte, .byte, .int, .byte, .byte, .byte, .byte, .byte, .byte, .byte, .byte, .byte, .byte, .byte, .byte, .byte, .byte, .byte, .byte, .byte, .byte, .byte, .byte, .byte, .byte, .byte, .byte, .char, .char, .char, .char, .char, .char, .int, .int, .int, .long, .int, .int, .boolean]
  resolved := Array.replicate 604 none
  statics := none }

def pool15 : Array CpInfo := pool [(2, .class_ 4), (1, u "java/lang/Enum"), (0, u "name"), (0, u "Ljava/lang/String;"), (2, u "ordinal"), (0, u "I"), (1, .class_ 14), (1, u "java/lang/Object"), (4, u "hash"), (86, .class_ 108), (1, u "java/lang/Enum$EnumDesc"), (2, .class_ 112), (0, u "java/lang/constant/Constable"), (0, .class_ 114), (0, u "java/lang/Comparable"), (0, .class_ 116), (0, u "java/io/Serializable")] 87

/-- java/lang/Enum -/
def k15 : Class := { plain "java/lang/Enum" (some 0) with
  accessFlags := 1057
  interfaces := #[5, 3, 2]
  cf := some (fileOf pool15 2 #[.nestMembers #[106]] #[] 1057 12 #[111, 113, 115] #[{ accessFlags := 18, nameIndex := 5, descriptorIndex := 6, attributes := #[] }, { accessFlags := 18, nameIndex := 9, descriptorIndex := 10, attributes := #[] }, { accessFlags := 2, nameIndex := 19, descriptorIndex := 10, attributes := #[] }])
  fields := #[{ name := "name", type := (.object "java/lang/String"), accessFlags := 18, slot := 0, constantValue := 0 }, { name := "ordinal", type := .int, accessFlags := 18, slot := 1, constantValue := 0 }, { name := "hash", type := .int, accessFlags := 2, slot := 2, constantValue := 0 }]
  methods := #[]
  instanceTypes := #[(.object "java/lang/String"), .int, .int]
  staticTypes := #[]
  resolved := Array.replicate 204 none
  statics := none }

def pool16 : Array CpInfo := pool [(1, .class_ 2), (0, u "com/example/circa_once/circaonce/model/Scope$Kind"), (2, u "COMMAND"), (0, u "Lcom/example/circa_once/circaonce/model/Scope$Kind;"), (2, u "MESSAGE"), (2, u "$VALUES"), (0, u "[Lcom/example/circa_once/circaonce/model/Scope$Kind;"), (6, .class_ 22), (1, u "java/lang/Enum"), (25, .class_ 49), (0, u "com/example/circa_once/circaonce/model/Scope")] 2

/-- com/example/circa_once/circaonce/model/Scope$Kind -/
def k16 : Class := { plain "com/example/circa_once/circaonce/model/Scope$Kind" (some 15) with
  accessFlags := 16433
  interfaces := #[]
  cf := some (fileOf pool16 1 #[.nestHost 48] #[] 16433 20 #[] #[{ accessFlags := 16409, nameIndex := 5, descriptorIndex := 6, attributes := #[] }, { accessFlags := 16409, nameIndex := 9, descriptorIndex := 6, attributes := #[] }, { accessFlags := 4122, nameIndex := 12, descriptorIndex := 13, attributes := #[] }])
  fields := #[{ name := "COMMAND", type := (.object "com/example/circa_once/circaonce/model/Scope$Kind"), accessFlags := 16409, slot := 0, constantValue := 0 }, { name := "MESSAGE", type := (.object "com/example/circa_once/circaonce/model/Scope$Kind"), accessFlags := 16409, slot := 1, constantValue := 0 }, { name := "$VALUES", type := (.array (.object "com/example/circa_once/circaonce/model/Scope$Kind")), accessFlags := 4122, slot := 2, constantValue := 0 }]
  methods := #[]
  instanceTypes := #[(.object "java/lang/String"), .int, .int]
  staticTypes := #[(.object "com/example/circa_once/circaonce/model/Scope$Kind"), (.object "com/example/circa_once/circaonce/model/Scope$Kind"), (.array (.object "com/example/circa_once/circaonce/model/Scope$Kind"))]
  resolved := Array.replicate 52 none
  statics := some 3 }

def pool17 : Array CpInfo := pool [(9, u "<init>"), (6, .class_ 18), (1, u "java/lang/Object"), (0, u "()V"), (1, .class_ 23), (1, u "jdk/internal/util/ArraysSupport"), (0, u "LOG2_ARRAY_LONG_INDEX_SCALE"), (0, u "I"), (2, u "U"), (0, u "Ljdk/internal/misc/Unsafe;"), (8, u "BIG_ENDIAN"), (0, u "Z"), (8, u "LOG2_BYTE_BIT_SIZE"), (4, u "LOG2_ARRAY_INT_INDEX_SCALE"), (54, u "JLA"), (0, u "Ljdk/internal/access/JavaLangAccess;"), (11, u "LOG2_ARRAY_BOOLEAN_INDEX_SCALE"), (9, u "LOG2_ARRAY_BYTE_INDEX_SCALE"), (5, u "LOG2_ARRAY_CHAR_INDEX_SCALE"), (5, u "LOG2_ARRAY_SHORT_INDEX_SCALE"), (18, u "LOG2_ARRAY_FLOAT_INDEX_SCALE"), (24, u "LOG2_ARRAY_DOUBLE_INDEX_SCALE"), (89, u "T_BOOLEAN"), (2, u "T_CHAR"), (1, u "T_FLOAT"), (1, u "T_DOUBLE"), (1, u "T_BYTE"), (1, u "T_SHORT"), (1, u "T_INT"), (1, u "T_LONG"), (1, u "SOFT_MAX_ARRAY_LENGTH")] 83

def k17m0 : Method := { name := "<init>", desc := "()V", sig := { parameters := [], returnType := none }, accessFlags := 2, code := none }
/-- jdk/internal/util/ArraysSupport -/
def k17 : Class := { plain "jdk/internal/util/ArraysSupport" (some 0) with
  accessFlags := 33
  interfaces := #[]
  cf := some (fileOf pool17 21 #[] #[{ accessFlags := 2, nameIndex := 9, descriptorIndex := 19, attributes := #[] }] 33 16 #[] #[{ accessFlags := 24, nameIndex := 28, descriptorIndex := 29, attributes := #[] }, { accessFlags := 26, nameIndex := 38, descriptorIndex := 39, attributes := #[] }, { accessFlags := 25, nameIndex := 121, descriptorIndex := 25, attributes := #[] }, { accessFlags := 25, nameIndex := 131, descriptorIndex := 25, attributes := #[] }, { accessFlags := 25, nameIndex := 137, descriptorIndex := 25, attributes := #[] }, { accessFlags := 25, nameIndex := 143, descriptorIndex := 25, attributes := #[] }, { accessFlags := 25, nameIndex := 53, descriptorIndex := 25, attributes := #[] }, { accessFlags := 25, nameIndex := 24, descriptorIndex := 25, attributes := #[] }, { accessFlags := 25, nameIndex := 162, descriptorIndex := 25, attributes := #[] }, { accessFlags := 25, nameIndex := 187, descriptorIndex := 25, attributes := #[] }, { accessFlags := 26, nameIndex := 48, descriptorIndex := 25, attributes := #[] }, { accessFlags := 25, nameIndex := 277, descriptorIndex := 25, attributes := #[] }, { accessFlags := 25, nameIndex := 280, descriptorIndex := 25, attributes := #[] }, { accessFlags := 25, nameIndex := 282, descriptorIndex := 25, attributes := #[] }, { accessFlags := 25, nameIndex := 284, descriptorIndex := 25, attributes := #[] }, { accessFlags := 25, nameIndex := 286, descriptorIndex := 25, attributes := #[] }, { accessFlags := 25, nameIndex := 288, descriptorIndex := 25, attributes := #[] }, { accessFlags := 25, nameIndex := 290, descriptorIndex := 25, attributes := #[] }, { accessFlags := 25, nameIndex := 292, descriptorIndex := 25, attributes := #[] }, { accessFlags := 26, nameIndex := 108, descriptorIndex := 109, attributes := #[] }, { accessFlags := 25, nameIndex := 294, descriptorIndex := 25, attributes := #[] }])
  fields := #[{ name := "U", type := (.object "jdk/internal/misc/Unsafe"), accessFlags := 24, slot := 0, constantValue := 0 }, { name := "BIG_ENDIAN", type := .boolean, accessFlags := 26, slot := 1, constantValue := 0 }, { name := "LOG2_ARRAY_BOOLEAN_INDEX_SCALE", type := .int, accessFlags := 25, slot := 2, constantValue := 0 }, { name := "LOG2_ARRAY_BYTE_INDEX_SCALE", type := .int, accessFlags := 25, slot := 3, constantValue := 0 }, { name := "LOG2_ARRAY_CHAR_INDEX_SCALE", type := .int, accessFlags := 25, slot := 4, constantValue := 0 }, { name := "LOG2_ARRAY_SHORT_INDEX_SCALE", type := .int, accessFlags := 25, slot := 5, constantValue := 0 }, { name := "LOG2_ARRAY_INT_INDEX_SCALE", type := .int, accessFlags := 25, slot := 6, constantValue := 0 }, { name := "LOG2_ARRAY_LONG_INDEX_SCALE", type := .int, accessFlags := 25, slot := 7, constantValue := 0 }, { name := "LOG2_ARRAY_FLOAT_INDEX_SCALE", type := .int, accessFlags := 25, slot := 8, constantValue := 0 }, { name := "LOG2_ARRAY_DOUBLE_INDEX_SCALE", type := .int, accessFlags := 25, slot := 9, constantValue := 0 }, { name := "LOG2_BYTE_BIT_SIZE", type := .int, accessFlags := 26, slot := 10, constantValue := 0 }, { name := "T_BOOLEAN", type := .int, accessFlags := 25, slot := 11, constantValue := 0 }, { name := "T_CHAR", type := .int, accessFlags := 25, slot := 12, constantValue := 0 }, { name := "T_FLOAT", type := .int, accessFlags := 25, slot := 13, constantValue := 0 }, { name := "T_DOUBLE", type := .int, accessFlags := 25, slot := 14, constantValue := 0 }, { name := "T_BYTE", type := .int, accessFlags := 25, slot := 15, constantValue := 0 }, { name := "T_SHORT", type := .int, accessFlags := 25, slot := 16, constantValue := 0 }, { name := "T_INT", type := .int, accessFlags := 25, slot := 17, constantValue := 0 }, { name := "T_LONG", type := .int, accessFlags := 25, slot := 18, constantValue := 0 }, { name := "JLA", type := (.object "jdk/internal/access/JavaLangAccess"), accessFlags := 26, slot := 19, constantValue := 0 }, { name := "SOFT_MAX_ARRAY_LENGTH", type := .int, accessFlags := 25, slot := 20, constantValue := 0 }]
  methods := #[k17m0]
  instanceTypes := #[]
  staticTypes := #[(.object "jdk/internal/misc/Unsafe"), .boolean, .int, .int, .int, .int, .int, .int, .int, .int, .int, .int, .int, .int, .int, .int, .int, .int, .int, (.object "jdk/internal/access/JavaLangAccess"), .int]
  resolved := Array.replicate 378 none
  statics := none }

def pool18 : Array CpInfo := pool [(1, u "java/lang/Cloneable"), (0, .class_ 1), (0, u "java/lang/Object"), (0, .class_ 3)] 3

/-- java/lang/Cloneable -/
def k18 : Class := { plain "java/lang/Cloneable" (some 0) with
  accessFlags := 1537
  interfaces := #[]
  cf := some (fileOf pool18 2 #[] #[] 1537 4 #[] #[])
  fields := #[]
  methods := #[]
  instanceTypes := #[]
  staticTypes := #[]
  resolved := Array.replicate 8 none
  statics := none }

/-- the primitive byte -/
def k19 : Class := { plain "byte" none with kind := .primitive 'B', accessFlags := 0x411 }
/-- [B -/
def k20 : Class := { plain "[B" (some 0) with kind := .array 19 .byte, interfaces := #[18, 2], accessFlags := 1041 }

/-- the primitive char -/
def k21 : Class := { plain "char" none with kind := .primitive 'C', accessFlags := 0x411 }
/-- [C -/
def k22 : Class := { plain "[C" (some 0) with kind := .array 21 .char, interfaces := #[18, 2], accessFlags := 1041 }

/-- the primitive int -/
def k23 : Class := { plain "int" none with kind := .primitive 'I', accessFlags := 0x411 }
/-- [I -/
def k24 : Class := { plain "[I" (some 0) with kind := .array 23 .int, interfaces := #[18, 2], accessFlags := 1041 }

def heap : Heap := #[{ cls := 7, slots := #[.long 0, .int 1, .null, .int 0, .null, .int 0, .int 0], vm := .statics 7 },
  { cls := 8, slots := #[.int 0, .int 8, .int 0, .int 1], vm := .statics 8 },
  { cls := 13, slots := #[.null, .null, .null], vm := .statics 13 },
  { cls := 16, slots := #[.ref 4, .ref 5, .null], vm := .statics 16 },
  { cls := 16, slots := #[.null, .int 0, .int 0], vm := .none },
  { cls := 16, slots := #[.null, .int 1, .int 0], vm := .none }]
def classes : Array Class := #[k0, k1, k2, k3, k4, k5, k6, k7, k8, k9, k10, k11, k12, k13, k14, k15, k16, k17, k18, k19, k20, k21, k22, k23, k24]
def interned : List (Array UInt16 × Addr) := []
def slotsUsed : Nat := 23
def theMethod : MethodId := ⟨1, 2⟩
def args0 : Array Value := #[.int 1, .int 2, .int 3, .int 4, .int 5, .int 6]
def aboutOver (below : List Frame) : State where
  vm := { classes := classes, interned := interned.toArray }
  heap := heap
  slotsUsed := slotsUsed
  threads := #[{ frames := .invoking theMethod args0 :: below }]
def below0 : List Frame := [.native { method := ⟨0, 0⟩, args := #[] }]
def about1 : State := aboutOver below0
def p0 : Program := .bare "" "" ""
def e0 : Env := launch0.env 0 0 0
theorem w_frames : about1.frames = Frame.invoking theMethod args0 :: below0 := rfl
set_option maxRecDepth 65536 in
theorem w_args : argsFit about1.vm theMethod args0 = true := by decide +kernel
set_option maxRecDepth 65536 in
theorem w_heap : heapFits about1 = true := by decide +kernel
set_option maxRecDepth 65536 in
theorem w_runnable : about1.curStatus? = some .runnable := by decide +kernel
set_option maxRecDepth 65536 in
theorem w_alone : about1.alone = true := by decide +kernel
set_option maxRecDepth 65536 in
theorem w_named : about1.methodNamed? x = some theMethod := by decide +kernel
set_option maxRecDepth 65536 in
theorem w_hears : about1.hears theMethod below0 = true := by decide +kernel
set_option maxRecDepth 65536 in
theorem w_ripe : about1.ripe theMethod args0 below0 = true := by decide +kernel
theorem w_running : about1.status = .running := rfl
set_option maxRecDepth 65536 in
theorem w_room : about1.hasRoom e0.platform room_1 = true :=
  launch0.hasRoom_least _ room_1 (by decide +kernel) (by decide +kernel) (by decide +kernel) (by decide +kernel) (by decide +kernel) (by decide +kernel)
theorem allAtoms_all (ts : List Jvm.Cond) (a : Array Jvm.Value) (st : Jvm.State) : (allAtoms ts).before a st = ts.all (fun c => c.before a st) := by
  induction ts with
  | nil => rfl
  | cons c t ih =>
    show (Jvm.Cond.and c (allAtoms t)).before a st = _
    rw [Jvm.Cond.before_and, ih, List.all_cons]
def words1 : List Jvm.Cond := Jvm.Cond.code x code maxLocals ret :: tables_1
/-- a 'code' word, met by the world's own term for the bytes: nothing is compared byte by byte -/
theorem code_word {y : MethodName} {bytes : ByteArray} {mx : Nat} {rt : Option FieldType} {a : Array Value} {s : State} {m : MethodId} {meth : Method} {c : Code} (h1 : s.methodNamed? y = some m) (h2 : s.vm.method? m = some meth) (h3 : meth.code = some c) (h4 : c.code = bytes)
    (h5 : (c.maxLocals == mx && c.exceptionTable.isEmpty && decide (c.maxStack ≤ mostOperands) && decide (meth.sig.returnType = rt) && !meth.locks && decide (parseMethodDescriptor y.desc = some meth.sig)) = true) : (Jvm.Cond.code y bytes mx rt).before a s = true := by
  simp only [Bool.and_eq_true, beq_iff_eq, Bool.not_eq_true', decide_eq_true_eq] at h5
  obtain ⟨⟨⟨⟨⟨g1, g2⟩, g3⟩, g4⟩, g5⟩, g6⟩ := h5
  simp [Cond.before, Cond.holds, Cond.value, h1, h2, h3, h4, g1, g2, g3, g4, g5, g6]
def isCode : Jvm.Cond → Bool
  | .code _ _ _ _ => true
  | _ => false
theorem all_split {L : List Jvm.Cond} {P : Jvm.Cond → Bool} (h1 : L.all (fun c => isCode c || P c) = true) (h2 : ∀ c ∈ L.filter isCode, P c = true) : L.all P = true := by
  refine List.all_eq_true.mpr fun c hc => ?_
  have h := List.all_eq_true.mp h1 c hc
  rcases Bool.eq_false_or_eq_true (isCode c) with hi | hi
  · exact h2 c (List.mem_filter.mpr ⟨hc, hi⟩)
  · simpa [hi] using h
set_option maxRecDepth 65536 in
theorem w_c0 : (Jvm.Cond.code x code maxLocals ret).before args0 about1 = true := code_word (m := ⟨1, 2⟩) (meth := k1m2) (c := k1c2) (by decide +kernel) rfl rfl rfl (by decide +kernel)
set_option maxRecDepth 65536 in
theorem w_c1 : (Jvm.Cond.code ({ cls := "com/example/circa_once/circaonce/model/ScopeOfPinLaw", name := "str", desc := "(I)Ljava/lang/String;" } : Jvm.MethodName) method_2_code (5 : Nat) (Option.some (Jvm.ClassFile.FieldType.object "java/lang/String"))).before args0 about1 = true := code_word (m := ⟨1, 1⟩) (meth := k1m1) (c := k1c1) (by decide +kernel) rfl rfl rfl (by decide +kernel)
set_option maxRecDepth 65536 in
theorem w_c2 : (Jvm.Cond.code ({ cls := "java/lang/String", name := "<init>", desc := "([C)V" } : Jvm.MethodName) jdk_42_method_3_code (2 : Nat) (Option.none : Option Jvm.ClassFile.FieldType)).before args0 about1 = true := code_word (m := ⟨7, 1⟩) (meth := k7m1) (c := k7c1) (by decide +kernel) rfl rfl rfl (by decide +kernel)
set_option maxRecDepth 65536 in
theorem w_c3 : (Jvm.Cond.code ({ cls := "java/lang/String", name := "<init>", desc := "([CIILjava/lang/Void;)V" } : Jvm.MethodName) jdk_42_method_149_code (6 : Nat) (Option.none : Option Jvm.ClassFile.FieldType)).before args0 about1 = true := code_word (m := ⟨7, 5⟩) (meth := k7m5) (c := k7c5) (by decide +kernel) rfl rfl rfl (by decide +kernel)
set_option maxRecDepth 65536 in
theorem w_c4 : (Jvm.Cond.code ({ cls := "java/lang/Object", name := "<init>", desc := "()V" } : Jvm.MethodName) object_method_1_code (1 : Nat) (Option.none : Option Jvm.ClassFile.FieldType)).before args0 about1 = true := code_word (m := ⟨0, 0⟩) (meth := k0m0) (c := k0c0) (by decide +kernel) rfl rfl rfl (by decide +kernel)
set_option maxRecDepth 65536 in
theorem w_c5 : (Jvm.Cond.code ({ cls := "java/lang/StringUTF16", name := "compress", desc := "([CII)[B" } : Jvm.MethodName) jdk_52_method_16_code (6 : Nat) (Option.some (Jvm.ClassFile.FieldType.array Jvm.ClassFile.FieldType.byte))).before args0 about1 = true := code_word (m := ⟨8, 8⟩) (meth := k8m8) (c := k8c8) (by decide +kernel) rfl rfl rfl (by decide +kernel)
set_option maxRecDepth 65536 in
theorem w_c6 : (Jvm.Cond.code ({ cls := "java/lang/StringUTF16", name := "compress", desc := "([CI[BII)I" } : Jvm.MethodName) jdk_52_method_21_code (7 : Nat) (Option.some Jvm.ClassFile.FieldType.int)).before args0 about1 = true := code_word (m := ⟨8, 9⟩) (meth := k8m9) (c := k8c9) (by decide +kernel) rfl rfl rfl (by decide +kernel)
set_option maxRecDepth 65536 in
theorem w_c7 : (Jvm.Cond.code ({ cls := "java/lang/StringUTF16", name := "coderFromArrayLen", desc := "([BI)B" } : Jvm.MethodName) jdk_52_method_15_code (2 : Nat) (Option.some Jvm.ClassFile.FieldType.byte)).before args0 about1 = true := code_word (m := ⟨8, 7⟩) (meth := k8m7) (c := k8c7) (by decide +kernel) rfl rfl rfl (by decide +kernel)
set_option maxRecDepth 65536 in
theorem w_c8 : (Jvm.Cond.code ({ cls := "com/example/circa_once/circaonce/model/Scope", name := "of", desc := "(Ljava/lang/String;Ljava/lang/String;Ljava/lang/String;)Lcom/example/circa_once/circaonce/model/Scope;" } : Jvm.MethodName) prog_13_method_2_code (3 : Nat) (Option.some (Jvm.ClassFile.FieldType.object "com/example/circa_once/circaonce/model/Scope"))).before args0 about1 = true := code_word (m := ⟨9, 1⟩) (meth := k9m1) (c := k9c1) (by decide +kernel) rfl rfl rfl (by decide +kernel)
set_option maxRecDepth 65536 in
theorem w_c9 : (Jvm.Cond.code ({ cls := "com/example/circa_once/circaonce/model/StorableText", name := "require", desc := "(Ljava/lang/String;Ljava/lang/String;)Ljava/lang/String;" } : Jvm.MethodName) prog_16_method_2_code (6 : Nat) (Option.some (Jvm.ClassFile.FieldType.object "java/lang/String"))).before args0 about1 = true := code_word (m := ⟨10, 1⟩) (meth := k10m1) (c := k10c1) (by decide +kernel) rfl rfl rfl (by decide +kernel)
set_option maxRecDepth 65536 in
theorem w_c10 : (Jvm.Cond.code ({ cls := "java/util/Objects", name := "requireNonNull", desc := "(Ljava/lang/Object;Ljava/lang/String;)Ljava/lang/Object;" } : Jvm.MethodName) jdk_31_method_11_code (2 : Nat) (Option.some (Jvm.ClassFile.FieldType.object "java/lang/Object"))).before args0 about1 = true := code_word (m := ⟨11, 1⟩) (meth := k11m1) (c := k11c1) (by decide +kernel) rfl rfl rfl (by decide +kernel)
set_option maxRecDepth 65536 in
theorem w_c11 : (Jvm.Cond.code ({ cls := "java/lang/String", name := "length", desc := "()I" } : Jvm.MethodName) jdk_42_method_54_code (1 : Nat) (Option.some Jvm.ClassFile.FieldType.int)).before args0 about1 = true := code_word (m := ⟨7, 2⟩) (meth := k7m2) (c := k7c2) (by decide +kernel) rfl rfl rfl (by decide +kernel)
set_option maxRecDepth 65536 in
theorem w_c12 : (Jvm.Cond.code ({ cls := "java/lang/String", name := "coder", desc := "()B" } : Jvm.MethodName) jdk_42_method_152_code (1 : Nat) (Option.some Jvm.ClassFile.FieldType.byte)).before args0 about1 = true := code_word (m := ⟨7, 6⟩) (meth := k7m6) (c := k7c6) (by decide +kernel) rfl rfl rfl (by decide +kernel)
set_option maxRecDepth 65536 in
theorem w_c13 : (Jvm.Cond.code ({ cls := "java/lang/String", name := "charAt", desc := "(I)C" } : Jvm.MethodName) jdk_42_method_56_code (2 : Nat) (Option.some Jvm.ClassFile.FieldType.char)).before args0 about1 = true := code_word (m := ⟨7, 3⟩) (meth := k7m3) (c := k7c3) (by decide +kernel) rfl rfl rfl (by decide +kernel)
set_option maxRecDepth 65536 in
theorem w_c14 : (Jvm.Cond.code ({ cls := "java/lang/String", name := "isLatin1", desc := "()Z" } : Jvm.MethodName) jdk_42_method_154_code (1 : Nat) (Option.some Jvm.ClassFile.FieldType.boolean)).before args0 about1 = true := code_word (m := ⟨7, 7⟩) (meth := k7m7) (c := k7c7) (by decide +kernel) rfl rfl rfl (by decide +kernel)
set_option maxRecDepth 65536 in
theorem w_c15 : (Jvm.Cond.code ({ cls := "java/lang/StringLatin1", name := "charAt", desc := "([BI)C" } : Jvm.MethodName) jdk_43_method_2_code (2 : Nat) (Option.some Jvm.ClassFile.FieldType.char)).before args0 about1 = true := code_word (m := ⟨12, 1⟩) (meth := k12m1) (c := k12c1) (by decide +kernel) rfl rfl rfl (by decide +kernel)
set_option maxRecDepth 65536 in
theorem w_c16 : (Jvm.Cond.code ({ cls := "java/lang/String", name := "checkIndex", desc := "(II)V" } : Jvm.MethodName) jdk_42_method_155_code (2 : Nat) (Option.none : Option Jvm.ClassFile.FieldType)).before args0 about1 = true := code_word (m := ⟨7, 8⟩) (meth := k7m8) (c := k7c8) (by decide +kernel) rfl rfl rfl (by decide +kernel)
set_option maxRecDepth 65536 in
theorem w_c17 : (Jvm.Cond.code ({ cls := "jdk/internal/util/Preconditions", name := "checkIndex", desc := "(IILjava/util/function/BiFunction;)I" } : Jvm.MethodName) jdk_41_method_11_code (3 : Nat) (Option.some Jvm.ClassFile.FieldType.int)).before args0 about1 = true := code_word (m := ⟨13, 1⟩) (meth := k13m1) (c := k13c1) (by decide +kernel) rfl rfl rfl (by decide +kernel)
set_option maxRecDepth 65536 in
theorem w_c18 : (Jvm.Cond.code ({ cls := "java/lang/Character", name := "isSurrogate", desc := "(C)Z" } : Jvm.MethodName) jdk_89_method_16_code (1 : Nat) (Option.some Jvm.ClassFile.FieldType.boolean)).before args0 about1 = true := code_word (m := ⟨14, 2⟩) (meth := k14m2) (c := k14c2) (by decide +kernel) rfl rfl rfl (by decide +kernel)
set_option maxRecDepth 65536 in
theorem w_c19 : (Jvm.Cond.code ({ cls := "com/example/circa_once/circaonce/model/Scope", name := "<init>", desc := "(Lcom/example/circa_once/circaonce/model/Scope$Kind;Ljava/lang/String;Ljava/lang/String;Ljava/lang/String;)V" } : Jvm.MethodName) prog_13_method_1_code (5 : Nat) (Option.none : Option Jvm.ClassFile.FieldType)).before args0 about1 = true := code_word (m := ⟨9, 0⟩) (meth := k9m0) (c := k9c0) (by decide +kernel) rfl rfl rfl (by decide +kernel)
set_option maxRecDepth 65536 in
theorem w_c20 : (Jvm.Cond.code ({ cls := "com/example/circa_once/circaonce/model/Scope", name := "kind", desc := "()Lcom/example/circa_once/circaonce/model/Scope$Kind;" } : Jvm.MethodName) prog_13_method_4_code (1 : Nat) (Option.some (Jvm.ClassFile.FieldType.object "com/example/circa_once/circaonce/model/Scope$Kind"))).before args0 about1 = true := code_word (m := ⟨9, 3⟩) (meth := k9m3) (c := k9c3) (by decide +kernel) rfl rfl rfl (by decide +kernel)
set_option maxRecDepth 65536 in
theorem w_c21 : (Jvm.Cond.code ({ cls := "com/example/circa_once/circaonce/model/Scope", name := "tenant", desc := "()Ljava/lang/String;" } : Jvm.MethodName) prog_13_method_5_code (1 : Nat) (Option.some (Jvm.ClassFile.FieldType.object "java/lang/String"))).before args0 about1 = true := code_word (m := ⟨9, 4⟩) (meth := k9m4) (c := k9c4) (by decide +kernel) rfl rfl rfl (by decide +kernel)
set_option maxRecDepth 65536 in
theorem w_c22 : (Jvm.Cond.code ({ cls := "java/lang/String", name := "equals", desc := "(Ljava/lang/Object;)Z" } : Jvm.MethodName) jdk_42_method_66_code (3 : Nat) (Option.some Jvm.ClassFile.FieldType.boolean)).before args0 about1 = true := code_word (m := ⟨7, 4⟩) (meth := k7m4) (c := k7c4) (by decide +kernel) rfl rfl rfl (by decide +kernel)
set_option maxRecDepth 65536 in
theorem w_c23 : (Jvm.Cond.code ({ cls := "com/example/circa_once/circaonce/model/Scope", name := "caller", desc := "()Ljava/lang/String;" } : Jvm.MethodName) prog_13_method_6_code (1 : Nat) (Option.some (Jvm.ClassFile.FieldType.object "java/lang/String"))).before args0 about1 = true := code_word (m := ⟨9, 5⟩) (meth := k9m5) (c := k9c5) (by decide +kernel) rfl rfl rfl (by decide +kernel)
set_option maxRecDepth 65536 in
theorem w_c24 : (Jvm.Cond.code ({ cls := "com/example/circa_once/circaonce/model/Scope", name := "operation", desc := "()Ljava/lang/String;" } : Jvm.MethodName) prog_13_method_7_code (1 : Nat) (Option.some (Jvm.ClassFile.FieldType.object "java/lang/String"))).before args0 about1 = true := code_word (m := ⟨9, 6⟩) (meth := k9m6) (c := k9c6) (by decide +kernel) rfl rfl rfl (by decide +kernel)
set_option maxRecDepth 65536 in
theorem w_c25 : (Jvm.Cond.code ({ cls := "java/lang/StringLatin1", name := "equals", desc := "([B[B)Z" } : Jvm.MethodName) jdk_43_method_13_code (3 : Nat) (Option.some Jvm.ClassFile.FieldType.boolean)).before args0 about1 = true := code_word (m := ⟨12, 2⟩) (meth := k12m2) (c := k12c2) (by decide +kernel) rfl rfl rfl (by decide +kernel)
set_option maxRecDepth 65536 in
theorem w_c26 : (Jvm.Cond.code ({ cls := "com/example/circa_once/circaonce/model/Scope", name := "equals", desc := "(Ljava/lang/Object;)Z" } : Jvm.MethodName) prog_13_method_8_code (3 : Nat) (Option.some Jvm.ClassFile.FieldType.boolean)).before args0 about1 = true := code_word (m := ⟨9, 7⟩) (meth := k9m7) (c := k9c7) (by decide +kernel) rfl rfl rfl (by decide +kernel)
set_option maxRecDepth 65536 in
theorem w_c27 : (Jvm.Cond.code ({ cls := "com/example/circa_once/circaonce/model/Scope", name := "ofConsumer", desc := "(Ljava/lang/String;)Lcom/example/circa_once/circaonce/model/Scope;" } : Jvm.MethodName) prog_13_method_3_code (1 : Nat) (Option.some (Jvm.ClassFile.FieldType.object "com/example/circa_once/circaonce/model/Scope"))).before args0 about1 = true := code_word (m := ⟨9, 2⟩) (meth := k9m2) (c := k9c2) (by decide +kernel) rfl rfl rfl (by decide +kernel)
set_option maxRecDepth 65536 in
theorem w_c28 : (Jvm.Cond.code ({ cls := "java/lang/StringUTF16", name := "toBytes", desc := "([CII)[B" } : Jvm.MethodName) jdk_52_method_14_code (5 : Nat) (Option.some (Jvm.ClassFile.FieldType.array Jvm.ClassFile.FieldType.byte))).before args0 about1 = true := code_word (m := ⟨8, 6⟩) (meth := k8m6) (c := k8c6) (by decide +kernel) rfl rfl rfl (by decide +kernel)
set_option maxRecDepth 65536 in
theorem w_c29 : (Jvm.Cond.code ({ cls := "java/lang/StringUTF16", name := "newBytesFor", desc := "(I)[B" } : Jvm.MethodName) jdk_52_method_2_code (1 : Nat) (Option.some (Jvm.ClassFile.FieldType.array Jvm.ClassFile.FieldType.byte))).before args0 about1 = true := code_word (m := ⟨8, 1⟩) (meth := k8m1) (c := k8c1) (by decide +kernel) rfl rfl rfl (by decide +kernel)
set_option maxRecDepth 65536 in
theorem w_c30 : (Jvm.Cond.code ({ cls := "java/lang/StringUTF16", name := "newBytesLength", desc := "(I)I" } : Jvm.MethodName) jdk_52_method_3_code (1 : Nat) (Option.some Jvm.ClassFile.FieldType.int)).before args0 about1 = true := code_word (m := ⟨8, 2⟩) (meth := k8m2) (c := k8c2) (by decide +kernel) rfl rfl rfl (by decide +kernel)
set_option maxRecDepth 65536 in
theorem w_c31 : (Jvm.Cond.code ({ cls := "java/lang/StringUTF16", name := "putChar", desc := "([BII)V" } : Jvm.MethodName) jdk_52_method_4_code (3 : Nat) (Option.none : Option Jvm.ClassFile.FieldType)).before args0 about1 = true := code_word (m := ⟨8, 3⟩) (meth := k8m3) (c := k8c3) (by decide +kernel) rfl rfl rfl (by decide +kernel)
set_option maxRecDepth 65536 in
theorem w_c32 : (Jvm.Cond.code ({ cls := "java/lang/StringUTF16", name := "getChar", desc := "([BI)C" } : Jvm.MethodName) jdk_52_method_5_code (2 : Nat) (Option.some Jvm.ClassFile.FieldType.char)).before args0 about1 = true := code_word (m := ⟨8, 4⟩) (meth := k8m4) (c := k8c4) (by decide +kernel) rfl rfl rfl (by decide +kernel)
set_option maxRecDepth 65536 in
theorem w_c33 : (Jvm.Cond.code ({ cls := "java/lang/StringUTF16", name := "charAt", desc := "([BI)C" } : Jvm.MethodName) jdk_52_method_83_code (2 : Nat) (Option.some Jvm.ClassFile.FieldType.char)).before args0 about1 = true := code_word (m := ⟨8, 10⟩) (meth := k8m10) (c := k8c10) (by decide +kernel) rfl rfl rfl (by decide +kernel)
set_option maxRecDepth 65536 in
theorem w_c34 : (Jvm.Cond.code ({ cls := "java/lang/StringUTF16", name := "checkIndex", desc := "(I[B)V" } : Jvm.MethodName) jdk_52_method_91_code (2 : Nat) (Option.none : Option Jvm.ClassFile.FieldType)).before args0 about1 = true := code_word (m := ⟨8, 11⟩) (meth := k8m11) (c := k8c11) (by decide +kernel) rfl rfl rfl (by decide +kernel)
set_option maxRecDepth 65536 in
theorem w_c35 : (Jvm.Cond.code ({ cls := "java/lang/StringUTF16", name := "length", desc := "([B)I" } : Jvm.MethodName) jdk_52_method_6_code (1 : Nat) (Option.some Jvm.ClassFile.FieldType.int)).before args0 about1 = true := code_word (m := ⟨8, 5⟩) (meth := k8m5) (c := k8c5) (by decide +kernel) rfl rfl rfl (by decide +kernel)
set_option maxRecDepth 65536 in
theorem w_c36 : (Jvm.Cond.code ({ cls := "java/lang/Character", name := "isHighSurrogate", desc := "(C)Z" } : Jvm.MethodName) jdk_89_method_14_code (1 : Nat) (Option.some Jvm.ClassFile.FieldType.boolean)).before args0 about1 = true := code_word (m := ⟨14, 0⟩) (meth := k14m0) (c := k14c0) (by decide +kernel) rfl rfl rfl (by decide +kernel)
set_option maxRecDepth 65536 in
theorem w_c37 : (Jvm.Cond.code ({ cls := "java/lang/Character", name := "isLowSurrogate", desc := "(C)Z" } : Jvm.MethodName) jdk_89_method_15_code (1 : Nat) (Option.some Jvm.ClassFile.FieldType.boolean)).before args0 about1 = true := code_word (m := ⟨14, 1⟩) (meth := k14m1) (c := k14c1) (by decide +kernel) rfl rfl rfl (by decide +kernel)
def codes1 : List Jvm.Cond := [Jvm.Cond.code x code maxLocals ret, Jvm.Cond.code ({ cls := "com/example/circa_once/circaonce/model/ScopeOfPinLaw", name := "str", desc := "(I)Ljava/lang/String;" } : Jvm.MethodName) method_2_code (5 : Nat) (Option.some (Jvm.ClassFile.FieldType.object "java/lang/String")), Jvm.Cond.code ({ cls := "java/lang/String", name := "<init>", desc := "([C)V" } : Jvm.MethodName) jdk_42_method_3_code (2 : Nat) (Option.none : Option Jvm.ClassFile.FieldType), Jvm.Cond.code ({ cls := "java/lang/String", name := "<init>", desc := "([CIILjava/lang/Void;)V" } : Jvm.MethodName) jdk_42_method_149_code (6 : Nat) (Option.none : Option Jvm.ClassFile.FieldType), Jvm.Cond.code ({ cls := "java/lang/Object", name := "<init>", desc := "()V" } : Jvm.MethodName) object_method_1_code (1 : Nat) (Option.none : Option Jvm.ClassFile.FieldType), Jvm.Cond.code ({ cls := "java/lang/StringUTF16", name := "compress", desc := "([CII)[B" } : Jvm.MethodName) jdk_52_method_16_code (6 : Nat) (Option.some (Jvm.ClassFile.FieldType.array Jvm.ClassFile.FieldType.byte)), Jvm.Cond.code ({ cls := "java/lang/StringUTF16", name := "compress", desc := "([CI[BII)I" } : Jvm.MethodName) jdk_52_method_21_code (7 : Nat) (Option.some Jvm.ClassFile.FieldType.int), Jvm.Cond.code ({ cls := "java/lang/StringUTF16", name := "coderFromArrayLen", desc := "([BI)B" } : Jvm.MethodName) jdk_52_method_15_code (2 : Nat) (Option.some Jvm.ClassFile.FieldType.byte), Jvm.Cond.code ({ cls := "com/example/circa_once/circaonce/model/Scope", name := "of", desc := "(Ljava/lang/String;Ljava/lang/String;Ljava/lang/String;)Lcom/example/circa_once/circaonce/model/Scope;" } : Jvm.MethodName) prog_13_method_2_code (3 : Nat) (Option.some (Jvm.ClassFile.FieldType.object "com/example/circa_once/circaonce/model/Scope")), Jvm.Cond.code ({ cls := "com/example/circa_once/circaonce/model/StorableText", name := "require", desc := "(Ljava/lang/String;Ljava/lang/String;)Ljava/lang/String;" } : Jvm.MethodName) prog_16_method_2_code (6 : Nat) (Option.some (Jvm.ClassFile.FieldType.object "java/lang/String")), Jvm.Cond.code ({ cls := "java/util/Objects", name := "requireNonNull", desc := "(Ljava/lang/Object;Ljava/lang/String;)Ljava/lang/Object;" } : Jvm.MethodName) jdk_31_method_11_code (2 : Nat) (Option.some (Jvm.ClassFile.FieldType.object "java/lang/Object")), Jvm.Cond.code ({ cls := "java/lang/String", name := "length", desc := "()I" } : Jvm.MethodName) jdk_42_method_54_code (1 : Nat) (Option.some Jvm.ClassFile.FieldType.int), Jvm.Cond.code ({ cls := "java/lang/String", name := "coder", desc := "()B" } : Jvm.MethodName) jdk_42_method_152_code (1 : Nat) (Option.some Jvm.ClassFile.FieldType.byte), Jvm.Cond.code ({ cls := "java/lang/String", name := "charAt", desc := "(I)C" } : Jvm.MethodName) jdk_42_method_56_code (2 : Nat) (Option.some Jvm.ClassFile.FieldType.char), Jvm.Cond.code ({ cls := "java/lang/String", name := "isLatin1", desc := "()Z" } : Jvm.MethodName) jdk_42_method_154_code (1 : Nat) (Option.some Jvm.ClassFile.FieldType.boolean), Jvm.Cond.code ({ cls := "java/lang/StringLatin1", name := "charAt", desc := "([BI)C" } : Jvm.MethodName) jdk_43_method_2_code (2 : Nat) (Option.some Jvm.ClassFile.FieldType.char), Jvm.Cond.code ({ cls := "java/lang/String", name := "checkIndex", desc := "(II)V" } : Jvm.MethodName) jdk_42_method_155_code (2 : Nat) (Option.none : Option Jvm.ClassFile.FieldType), Jvm.Cond.code ({ cls := "jdk/internal/util/Preconditions", name := "checkIndex", desc := "(IILjava/util/function/BiFunction;)I" } : Jvm.MethodName) jdk_41_method_11_code (3 : Nat) (Option.some Jvm.ClassFile.FieldType.int), Jvm.Cond.code ({ cls := "java/lang/Character", name := "isSurrogate", desc := "(C)Z" } : Jvm.MethodName) jdk_89_method_16_code (1 : Nat) (Option.some Jvm.ClassFile.FieldType.boolean), Jvm.Cond.code ({ cls := "com/example/circa_once/circaonce/model/Scope", name := "<init>", desc := "(Lcom/example/circa_once/circaonce/model/Scope$Kind;Ljava/lang/String;Ljava/lang/String;Ljava/lang/String;)V" } : Jvm.MethodName) prog_13_method_1_code (5 : Nat) (Option.none : Option Jvm.ClassFile.FieldType), Jvm.Cond.code ({ cls := "com/example/circa_once/circaonce/model/Scope", name := "kind", desc := "()Lcom/example/circa_once/circaonce/model/Scope$Kind;" } : Jvm.MethodName) prog_13_method_4_code (1 : Nat) (Option.some (Jvm.ClassFile.FieldType.object "com/example/circa_once/circaonce/model/Scope$Kind")), Jvm.Cond.code ({ cls := "com/example/circa_once/circaonce/model/Scope", name := "tenant", desc := "()Ljava/lang/String;" } : Jvm.MethodName) prog_13_method_5_code (1 : Nat) (Option.some (Jvm.ClassFile.FieldType.object "java/lang/String")), Jvm.Cond.code ({ cls := "java/lang/String", name := "equals", desc := "(Ljava/lang/Object;)Z" } : Jvm.MethodName) jdk_42_method_66_code (3 : Nat) (Option.some Jvm.ClassFile.FieldType.boolean), Jvm.Cond.code ({ cls := "com/example/circa_once/circaonce/model/Scope", name := "caller", desc := "()Ljava/lang/String;" } : Jvm.MethodName) prog_13_method_6_code (1 : Nat) (Option.some (Jvm.ClassFile.FieldType.object "java/lang/String")), Jvm.Cond.code ({ cls := "com/example/circa_once/circaonce/model/Scope", name := "operation", desc := "()Ljava/lang/String;" } : Jvm.MethodName) prog_13_method_7_code (1 : Nat) (Option.some (Jvm.ClassFile.FieldType.object "java/lang/String")), Jvm.Cond.code ({ cls := "java/lang/StringLatin1", name := "equals", desc := "([B[B)Z" } : Jvm.MethodName) jdk_43_method_13_code (3 : Nat) (Option.some Jvm.ClassFile.FieldType.boolean), Jvm.Cond.code ({ cls := "com/example/circa_once/circaonce/model/Scope", name := "equals", desc := "(Ljava/lang/Object;)Z" } : Jvm.MethodName) prog_13_method_8_code (3 : Nat) (Option.some Jvm.ClassFile.FieldType.boolean), Jvm.Cond.code ({ cls := "com/example/circa_once/circaonce/model/Scope", name := "ofConsumer", desc := "(Ljava/lang/String;)Lcom/example/circa_once/circaonce/model/Scope;" } : Jvm.MethodName) prog_13_method_3_code (1 : Nat) (Option.some (Jvm.ClassFile.FieldType.object "com/example/circa_once/circaonce/model/Scope")), Jvm.Cond.code ({ cls := "java/lang/StringUTF16", name := "toBytes", desc := "([CII)[B" } : Jvm.MethodName) jdk_52_method_14_code (5 : Nat) (Option.some (Jvm.ClassFile.FieldType.array Jvm.ClassFile.FieldType.byte)), Jvm.Cond.code ({ cls := "java/lang/StringUTF16", name := "newBytesFor", desc := "(I)[B" } : Jvm.MethodName) jdk_52_method_2_code (1 : Nat) (Option.some (Jvm.ClassFile.FieldType.array Jvm.ClassFile.FieldType.byte)), Jvm.Cond.code ({ cls := "java/lang/StringUTF16", name := "newBytesLength", desc := "(I)I" } : Jvm.MethodName) jdk_52_method_3_code (1 : Nat) (Option.some Jvm.ClassFile.FieldType.int), Jvm.Cond.code ({ cls := "java/lang/StringUTF16", name := "putChar", desc := "([BII)V" } : Jvm.MethodName) jdk_52_method_4_code (3 : Nat) (Option.none : Option Jvm.ClassFile.FieldType), Jvm.Cond.code ({ cls := "java/lang/StringUTF16", name := "getChar", desc := "([BI)C" } : Jvm.MethodName) jdk_52_method_5_code (2 : Nat) (Option.some Jvm.ClassFile.FieldType.char), Jvm.Cond.code ({ cls := "java/lang/StringUTF16", name := "charAt", desc := "([BI)C" } : Jvm.MethodName) jdk_52_method_83_code (2 : Nat) (Option.some Jvm.ClassFile.FieldType.char), Jvm.Cond.code ({ cls := "java/lang/StringUTF16", name := "checkIndex", desc := "(I[B)V" } : Jvm.MethodName) jdk_52_method_91_code (2 : Nat) (Option.none : Option Jvm.ClassFile.FieldType), Jvm.Cond.code ({ cls := "java/lang/StringUTF16", name := "length", desc := "([B)I" } : Jvm.MethodName) jdk_52_method_6_code (1 : Nat) (Option.some Jvm.ClassFile.FieldType.int), Jvm.Cond.code ({ cls := "java/lang/Character", name := "isHighSurrogate", desc := "(C)Z" } : Jvm.MethodName) jdk_89_method_14_code (1 : Nat) (Option.some Jvm.ClassFile.FieldType.boolean), Jvm.Cond.code ({ cls := "java/lang/Character", name := "isLowSurrogate", desc := "(C)Z" } : Jvm.MethodName) jdk_89_method_15_code (1 : Nat) (Option.some Jvm.ClassFile.FieldType.boolean)]
set_option maxRecDepth 65536 in
theorem codes_eq : words1.filter isCode = codes1 := rfl
theorem w_codes : ∀ c ∈ words1.filter isCode, c.before args0 about1 = true := by
  rw [codes_eq]
  intro c hc
  simp only [codes1, List.mem_cons, List.not_mem_nil, or_false] at hc
  rcases hc with rfl | rfl | rfl | rfl | rfl | rfl | rfl | rfl | rfl | rfl | rfl | rfl | rfl | rfl | rfl | rfl | rfl | rfl | rfl | rfl | rfl | rfl | rfl | rfl | rfl | rfl | rfl | rfl | rfl | rfl | rfl | rfl | rfl | rfl | rfl | rfl | rfl | rfl
  · exact w_c0
  · exact w_c1
  · exact w_c2
  · exact w_c3
  · exact w_c4
  · exact w_c5
  · exact w_c6
  · exact w_c7
  · exact w_c8
  · exact w_c9
  · exact w_c10
  · exact w_c11
  · exact w_c12
  · exact w_c13
  · exact w_c14
  · exact w_c15
  · exact w_c16
  · exact w_c17
  · exact w_c18
  · exact w_c19
  · exact w_c20
  · exact w_c21
  · exact w_c22
  · exact w_c23
  · exact w_c24
  · exact w_c25
  · exact w_c26
  · exact w_c27
  · exact w_c28
  · exact w_c29
  · exact w_c30
  · exact w_c31
  · exact w_c32
  · exact w_c33
  · exact w_c34
  · exact w_c35
  · exact w_c36
  · exact w_c37
set_option maxRecDepth 65536 in
theorem w_t1 : (words1.take 24).all (fun c => isCode c || c.before args0 about1) = true := by decide +kernel
set_option maxRecDepth 65536 in
theorem w_t2 : ((words1.drop 24).take 24).all (fun c => isCode c || c.before args0 about1) = true := by decide +kernel
set_option maxRecDepth 65536 in
theorem w_t3 : (((words1.drop 24).drop 24).take 24).all (fun c => isCode c || c.before args0 about1) = true := by decide +kernel
set_option maxRecDepth 65536 in
theorem w_t4 : ((((words1.drop 24).drop 24).drop 24).take 24).all (fun c => isCode c || c.before args0 about1) = true := by decide +kernel
set_option maxRecDepth 65536 in
theorem w_t5 : (((((words1.drop 24).drop 24).drop 24).drop 24).take 24).all (fun c => isCode c || c.before args0 about1) = true := by decide +kernel
set_option maxRecDepth 65536 in
theorem w_t6 : ((((((words1.drop 24).drop 24).drop 24).drop 24).drop 24).take 24).all (fun c => isCode c || c.before args0 about1) = true := by decide +kernel
set_option maxRecDepth 65536 in
theorem w_t7 : (((((((words1.drop 24).drop 24).drop 24).drop 24).drop 24).drop 24).take 24).all (fun c => isCode c || c.before args0 about1) = true := by decide +kernel
set_option maxRecDepth 65536 in
theorem w_t8 : (((((((words1.drop 24).drop 24).drop 24).drop 24).drop 24).drop 24).drop 24).all (fun c => isCode c || c.before args0 about1) = true := by decide +kernel
theorem w_tables : (allAtoms (Jvm.Cond.code x code maxLocals ret :: tables_1)).before args0 about1 = true := by
  rw [allAtoms_all]
  show words1.all (fun c => c.before args0 about1) = true
  refine all_split ?_ w_codes
  rw [← List.take_append_drop 24 words1, List.all_append, w_t1, ← List.take_append_drop 24 (words1.drop 24), List.all_append, w_t2, ← List.take_append_drop 24 ((words1.drop 24).drop 24), List.all_append, w_t3, ← List.take_append_drop 24 (((words1.drop 24).drop 24).drop 24), List.all_append, w_t4, ← List.take_append_drop 24 ((((words1.drop 24).drop 24).drop 24).drop 24), List.all_append, w_t5, ← List.take_append_drop 24 (((((words1.drop 24).drop 24).drop 24).drop 24).drop 24), List.all_append, w_t6, ← List.take_append_drop 24 ((((((words1.drop 24).drop 24).drop 24).drop 24).drop 24).drop 24), List.all_append, w_t7, w_t8]
  rfl
set_option maxRecDepth 65536 in
theorem w_rest : rest_1_c.before args0 about1 = true := by decide +kernel
set_option maxRecDepth 65536 in
theorem w_case : (Jvm.Cond.and given_1 narrow_1).before args0 about1 = true := by decide +kernel
set_option maxRecDepth 65536 in
theorem w_consts : constsHeld consts_1 about1 := Jvm.Lit.constsHeldB_iff.mp (by decide +kernel)
theorem w_applies : (headSpec (Jvm.Cond.code x code maxLocals ret :: tables_1) room_1).applies x e0.platform about1 = true :=
  (Spec.applies_iff w_frames).mpr ⟨w_running, w_runnable, w_alone, w_named, w_hears, w_ripe, w_room, w_tables⟩
theorem atStart : AtStart classFile x code maxLocals ret World_1 tables_1 room_1 Calls_1 rest_1 Pre_1 launch0 p0 e0 about1 theMethod args0 below0 :=
  ⟨lists_1, trivial, launch0.admits_env _ _ _, launch0.least_env, fairChoices_fair.cas, fairChoices_fair.clock, w_frames, w_args, w_heap, w_applies, ⟨w_consts, trivial⟩, w_rest, w_case⟩
end start1
theorem witness_1 : WitnessClaimed_1 := ⟨start1.p0, start1.e0, start1.about1, start1.theMethod, start1.args0, start1.below0, start1.atStart⟩
end Jvm.Pilot.@@N@@
