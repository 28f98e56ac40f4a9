import JvmDerived
import JvmDerived.Pilot.@@N@@Statement
import JvmDerived.Pilot.@@N@@Code
set_option linter.unusedVariables false
set_option linter.unusedSimpArgs false
/- laws to paste: Road.backV (cut by pick.py; bodies as the Statement names them) -/
namespace Jvm.Pilot.@@N@@
namespace StrChars
open Jvm Sem ClassFile Op Lib Jvm.Stand Jvm.Free.XT Jvm.Free.ALB Jvm.Free.JM Jvm.Free
open Jvm.Lib.Cold (StaticIs)
/-- a char array whose places are chars -/
def Ch (a : Addr) (A : Cell) (U : State) : Prop := Arr .char a A U ∧ Typed .char A
theorem Ch.mv {a : Addr} {A : Cell} {U U' : State} (h : Ch a A U) (hal : U.vm.Alike U'.vm) (hh : U'.heap = U.heap) : Ch a A U' := ⟨h.1.mv hal hh, h.2⟩
theorem Ch.keep {a : Addr} {A : Cell} {U U' : State} (h : Ch a A U) (hal : U.vm.Alike U'.vm) (hk : U'.heap[a]? = some A) : Ch a A U' := ⟨h.1.keep hal hk, h.2⟩
/-- what place i of a char[]'s cell holds -/
def cv (A : Cell) (i : Nat) : Int32 := match A.slots[i]? with | some (.int x) => x | _ => 0
theorem Ch.get {a : Addr} {A : Cell} {U : State} (h : Ch a A U) {i : Nat} (hi : i < A.slots.size) : A.slots[i]? = some (.int (cv A i)) := by
  have e := Array.getElem?_eq_getElem hi
  have f := h.2 i _ e
  unfold cv; rw [e]
  generalize A.slots[i] = v at f
  cases v <;> simp [fits] at f ⊢
/-- the byte that i2b leaves of a char -/
def lo8 (x : Int32) : Int32 := x.toInt8.toInt32
theorem fits_lo8 (y : Int32) : fits .byte (.int (lo8 y)) = true := by
  have h1 := y.toInt8.le_toInt
  have h2 := y.toInt8.toInt_lt
  simp only [lo8, fits, Bool.and_eq_true, decide_eq_true_eq, Int32.le_iff_toInt_le, Int8.toInt_toInt32, show (-128 : Int32).toInt = -128 from by decide, show (127 : Int32).toInt = 127 from by decide]
  omega
/-- A' is A but that each place j of lo .. hi - 1 holds f j -/
def Laid (A A' : Cell) (lo hi : Nat) (f : Nat → Value) : Prop := A'.cls = A.cls ∧ A'.vm = A.vm ∧ A'.slots.size = A.slots.size ∧ ∀ i, A'.slots[i]? = if lo ≤ i ∧ i < hi then some (f i) else A.slots[i]?
theorem Laid.zero (A : Cell) (lo : Nat) (f : Nat → Value) : Laid A A lo (lo + 0) f := ⟨rfl, rfl, rfl, fun i => by rw [if_neg (by omega)]⟩
theorem Laid.step {A Ak : Cell} {lo k : Nat} {f : Nat → Value} {v : Value} (h : Laid A Ak lo k f) (hlo : lo ≤ k) (hk : k < Ak.slots.size) (hv : v = f k) : Laid A (Ak.setSlot k v) lo (k + 1) f := by
  refine ⟨h.1, h.2.1, by simpa [Cell.setSlot] using h.2.2.1, fun i => ?_⟩
  by_cases e : k = i
  · subst e; rw [Cell.slots_setSlot_self v hk, if_pos (by omega), hv]
  · rw [Cell.slots_setSlot_ne v e, h.2.2.2 i]
    by_cases q : lo ≤ i ∧ i < k
    · rw [if_pos q, if_pos (by omega)]
    · rw [if_neg q, if_neg (by omega)]
def U16 : String := "java/lang/StringUTF16"
namespace Cmp5
def yN : MethodName := ⟨"java/lang/StringUTF16", "compress", "([CI[BII)I"⟩
abbrev yB : ByteArray := jdk_52_method_21_code
theorem d0 : decode yB 0 = .ok (.iconst 0, 1) := by decide +kernel
theorem d1 : decode yB 1 = .ok (.istore 5, 2) := by decide +kernel
theorem d3 : decode yB 3 = .ok (.iload 5, 2) := by decide +kernel
theorem d5 : decode yB 5 = .ok (.iload 4, 2) := by decide +kernel
theorem d7 : decode yB 7 = .ok (.if_icmp (.ge) 37, 3) := by decide +kernel
theorem d10 : decode yB 10 = .ok (.aload_n 0, 1) := by decide +kernel
theorem d11 : decode yB 11 = .ok (.iload_n 1, 1) := by decide +kernel
theorem d12 : decode yB 12 = .ok (.caload, 1) := by decide +kernel
theorem d13 : decode yB 13 = .ok (.istore 6, 2) := by decide +kernel
theorem d15 : decode yB 15 = .ok (.iload 6, 2) := by decide +kernel
theorem d17 : decode yB 17 = .ok (.sipush 255, 3) := by decide +kernel
theorem d20 : decode yB 20 = .ok (.if_icmp (.le) 6, 3) := by decide +kernel
theorem d26 : decode yB 26 = .ok (.aload_n 2, 1) := by decide +kernel
theorem d27 : decode yB 27 = .ok (.iload_n 3, 1) := by decide +kernel
theorem d28 : decode yB 28 = .ok (.iload 6, 2) := by decide +kernel
theorem d30 : decode yB 30 = .ok (.i2b, 1) := by decide +kernel
theorem d31 : decode yB 31 = .ok (.bastore, 1) := by decide +kernel
theorem d32 : decode yB 32 = .ok (.iinc 1 1, 3) := by decide +kernel
theorem d35 : decode yB 35 = .ok (.iinc 3 1, 3) := by decide +kernel
theorem d38 : decode yB 38 = .ok (.iinc 5 1, 3) := by decide +kernel
theorem d41 : decode yB 41 = .ok (.goto (-38), 3) := by decide +kernel
theorem d44 : decode yB 44 = .ok (.iload 4, 2) := by decide +kernel
theorem d46 : decode yB 46 = .ok (.ireturn, 1) := by decide +kernel
def site : List Cond := []
def tab : Cond := tabOf yN yB 7 (some .int) site
def P (b : Addr) (A : Cell) (d : Addr) (B : Cell) (o q len : Nat) (args : Array Value) (s : State) : Prop := args = #[.ref b, .int (Int32.ofNat o), .ref d, .int (Int32.ofNat q), .int (Int32.ofNat len)] ∧ Ch b A s ∧ Arr .byte d B s ∧ b ≠ d ∧ o + len ≤ A.slots.size ∧ q + len ≤ B.slots.size ∧ ∀ i, i < len → ¬ 255 < cv A (o + i)
def E (b : Addr) (A : Cell) (d : Addr) (B : Cell) (o q len : Nat) (r : Option Value) (s u : State) : Prop := r = some (.int (Int32.ofNat len)) ∧ ∃ B', Put d B' s u ∧ Laid B B' q (q + len) (fun j => Value.int (lo8 (cv A (o + (j - q)))))
/-- no char of the range above 255: len; the places written hold each char's low byte -/
theorem law (l : Launch) (b : Addr) (A : Cell) (d : Addr) (B : Cell) (o q len : Nat) : Law l yN 5 5 0 0 yB 7 (some .int) site (P b A d B o q len) (E b A d B o q len) (copyLocs d q len) 0 0 := by
  refine Law.of_walk (plainFor_of_name (by decide +kernel)) (by decide +kernel) (by decide +kernel) (by decide) (fun _ _ h => by rw [h.1]; rfl) (fun _ U U' hal hh h => ⟨h.1, h.2.1.mv hal hh, h.2.2.1.mv hal hh, h.2.2.2⟩) (fun r U U' V V' h1 hal h2 h => ⟨h.1, h.2.elim fun B' q => ⟨B', q.1.mv h1 h2, q.2⟩⟩) ?_
  intro p e s m args below meth c s₁ X0 hexec hbytes hml hret hlk hnm hown hh0 W hP
  obtain ⟨rfl, hA, hB, hne, l1, l2, hp⟩ := hP
  have c1 : Steps p.tables e below (s₁.setTop (entryFrame m #[.ref b, .int (Int32.ofNat o), .ref d, .int (Int32.ofNat q), .int (Int32.ofNat len)] 7)) (s₁.setTop (mkF m 0 #[.val (.ref b), .val (.int (Int32.ofNat o)), .val (.ref d), .val (.int (Int32.ofNat q)), .val (.int (Int32.ofNat len)), .unset, .unset] [])) := entry rfl
  have hA0 := hA.1.mv X0.warmed.alike hh0
  have hB0 := hB.mv X0.warmed.alike hh0
  have a31 := hA.1.2.2.2
  have c2 : Steps p.tables e below (s₁.setTop (entryFrame m #[.ref b, .int (Int32.ofNat o), .ref d, .int (Int32.ofNat q), .int (Int32.ofNat len)] 7)) (s₁.setTop (mkF m 3 #[.val (.ref b), .val (.int (Int32.ofNat o)), .val (.ref d), .val (.int (Int32.ofNat q)), .val (.int (Int32.ofNat len)), .val (.int 0), .unset] [])) := c1.trans (by
    refine iconstV X0.here hexec rfl 0 (hb hbytes d0) (by decide) ?_
    refine XS.istore X0.here hexec rfl (hb hbytes d1) rfl rfl ?_
    exact Steps.refl _)
  have loop : ∀ (r i : Nat), i + r = len → ∀ (z : Slot), (z = .unset ∨ ∃ w, z = .val w ∧ w.category = 1) → ∀ (Tl : State) (Bk : Cell), Stand p l e { frames := 0, locals := 0, cells := 0, slots := 0 } s m #[.ref b, .int (Int32.ofNat o), .ref d, .int (Int32.ofNat q), .int (Int32.ofNat len)] below meth c Tl ([] ++ copyLocs d q i) 0 0 → Put d Bk s₁ Tl → Laid B Bk q (q + i) (fun j => Value.int (lo8 (cv A (o + (j - q))))) →
      Steps p.tables e below (s₁.setTop (entryFrame m #[.ref b, .int (Int32.ofNat o), .ref d, .int (Int32.ofNat q), .int (Int32.ofNat len)] 7)) (Tl.setTop (mkF m 3 #[.val (.ref b), .val (.int (Int32.ofNat (o + i))), .val (.ref d), .val (.int (Int32.ofNat (q + i))), .val (.int (Int32.ofNat len)), .val (.int (Int32.ofNat i)), z] [])) → ∃ (T' : State) (B' : Cell) (z' : Slot), Stand p l e { frames := 0, locals := 0, cells := 0, slots := 0 } s m #[.ref b, .int (Int32.ofNat o), .ref d, .int (Int32.ofNat q), .int (Int32.ofNat len)] below meth c T' ([] ++ copyLocs d q len) 0 0 ∧ Put d B' s₁ T' ∧ Laid B B' q (q + len) (fun j => Value.int (lo8 (cv A (o + (j - q))))) ∧
      Steps p.tables e below (s₁.setTop (entryFrame m #[.ref b, .int (Int32.ofNat o), .ref d, .int (Int32.ofNat q), .int (Int32.ofNat len)] 7)) (T'.setTop (mkF m 3 #[.val (.ref b), .val (.int (Int32.ofNat (o + len))), .val (.ref d), .val (.int (Int32.ofNat (q + len))), .val (.int (Int32.ofNat len)), .val (.int (Int32.ofNat len)), z'] [])) := by
    intro r
    induction r with
    | zero =>
      intro i hi z hz Tl Bk Xl pl fl cl
      have hil : i = len := by omega
      rw [hil] at Xl fl cl
      exact ⟨Tl, Bk, z, Xl, pl, fl, cl⟩
    | succ r ih =>
      intro i hi z hz Tl Bk Xl pl fl cl
      have all := X0.warmed.alike.symm.trans Xl.warmed.alike
      have hAl := hA0.keep all (pl.other hne hA0.1)
      have hBk := hB0.like all pl.1 fl.1 fl.2.1 fl.2.2.1
      have hlt : q + i < Bk.slots.size := by rw [fl.2.2.1]; omega
      have c3 : Steps p.tables e below (s₁.setTop (entryFrame m #[.ref b, .int (Int32.ofNat o), .ref d, .int (Int32.ofNat q), .int (Int32.ofNat len)] 7)) (Tl.setTop (mkF m 12 #[.val (.ref b), .val (.int (Int32.ofNat (o + i))), .val (.ref d), .val (.int (Int32.ofNat (q + i))), .val (.int (Int32.ofNat len)), .val (.int (Int32.ofNat i)), z] [.int (Int32.ofNat (o + i)), .ref b])) := cl.trans (by
        refine XS.iload Xl.here hexec rfl (hb hbytes d3) rfl ?_
        refine XS.iload Xl.here hexec rfl (hb hbytes d5) rfl ?_
        refine XS.icmpNo Xl.here hexec rfl (hb hbytes d7) rfl (ii_ge_f (lt32 (by omega) (by omega))) ?_
        refine XS.aloadN Xl.here hexec rfl (hb hbytes d10) rfl rfl ?_
        refine XS.iloadN Xl.here hexec rfl (hb hbytes d11) rfl ?_
        exact Steps.refl _)
      have c4 : Steps p.tables e below (s₁.setTop (entryFrame m #[.ref b, .int (Int32.ofNat o), .ref d, .int (Int32.ofNat q), .int (Int32.ofNat len)] 7)) (Tl.setTop (mkF m 13 #[.val (.ref b), .val (.int (Int32.ofNat (o + i))), .val (.ref d), .val (.int (Int32.ofNat (q + i))), .val (.int (Int32.ofNat len)), .val (.int (Int32.ofNat i)), z] [.int (cv A (o + i))])) := c3.trans (by
        refine Xl.aget hexec hAl rfl (hA.get (i := o + i) (by omega)) rfl rfl (hb hbytes d12) ?_
        exact Steps.refl _)
      have c5 : Steps p.tables e below (s₁.setTop (entryFrame m #[.ref b, .int (Int32.ofNat o), .ref d, .int (Int32.ofNat q), .int (Int32.ofNat len)] 7)) (Tl.setTop (mkF m 15 #[.val (.ref b), .val (.int (Int32.ofNat (o + i))), .val (.ref d), .val (.int (Int32.ofNat (q + i))), .val (.int (Int32.ofNat len)), .val (.int (Int32.ofNat i)), .val (.int (cv A (o + i)))] [])) := c4.trans (by
        refine XS.istoreS Xl.here hexec rfl (hb hbytes d13) rfl rfl hz ?_
        exact Steps.refl _)
      have c6 : Steps p.tables e below (s₁.setTop (entryFrame m #[.ref b, .int (Int32.ofNat o), .ref d, .int (Int32.ofNat q), .int (Int32.ofNat len)] 7)) (Tl.setTop (mkF m 31 #[.val (.ref b), .val (.int (Int32.ofNat (o + i))), .val (.ref d), .val (.int (Int32.ofNat (q + i))), .val (.int (Int32.ofNat len)), .val (.int (Int32.ofNat i)), .val (.int (cv A (o + i)))] [.int (lo8 (cv A (o + i))), .int (Int32.ofNat (q + i)), .ref d])) := c5.trans (by
        refine XS.iload Xl.here hexec rfl (hb hbytes d15) rfl ?_
        refine sipushV Xl.here hexec rfl 255 (hb hbytes d17) (by decide) ?_
        refine XS.icmpYes Xl.here hexec rfl (pc0 := 20) rfl (hb hbytes d20) rfl (ii_le_t (hp i (by omega))) (by decide) rfl ?_
        refine XS.aloadN Xl.here hexec rfl (hb hbytes d26) rfl rfl ?_
        refine XS.iloadN Xl.here hexec rfl (hb hbytes d27) rfl ?_
        refine XS.iload Xl.here hexec rfl (hb hbytes d28) rfl ?_
        refine i2b Xl.here hexec rfl (hb hbytes d30) rfl ?_
        exact Steps.refl _)
      obtain ⟨T7, X7, p7, st7⟩ := Xl.aput hexec hBk rfl hlt rfl (fits_lo8 (cv A (o + i))) (g := (mkF m 31 #[.val (.ref b), .val (.int (Int32.ofNat (o + i))), .val (.ref d), .val (.int (Int32.ofNat (q + i))), .val (.int (Int32.ofNat len)), .val (.int (Int32.ofNat i)), .val (.int (cv A (o + i)))] [.int (lo8 (cv A (o + i))), .int (Int32.ofNat (q + i)), .ref d])) rfl (rest := []) rfl (hb hbytes d31)
      have c8 : Steps p.tables e below (s₁.setTop (entryFrame m #[.ref b, .int (Int32.ofNat o), .ref d, .int (Int32.ofNat q), .int (Int32.ofNat len)] 7)) (T7.setTop (mkF m 32 #[.val (.ref b), .val (.int (Int32.ofNat (o + i))), .val (.ref d), .val (.int (Int32.ofNat (q + i))), .val (.int (Int32.ofNat len)), .val (.int (Int32.ofNat i)), .val (.int (cv A (o + i)))] [])) := c6.trans (st7 _ (Steps.refl _))
      have c9 : Steps p.tables e below (s₁.setTop (entryFrame m #[.ref b, .int (Int32.ofNat o), .ref d, .int (Int32.ofNat q), .int (Int32.ofNat len)] 7)) (T7.setTop (mkF m 3 #[.val (.ref b), .val (.int (Int32.ofNat (o + i) + 1)), .val (.ref d), .val (.int (Int32.ofNat (q + i) + 1)), .val (.int (Int32.ofNat len)), .val (.int (Int32.ofNat i + 1)), .val (.int (cv A (o + i)))] [])) := c8.trans (by
        refine iincV X7.here hexec rfl 1 (hb hbytes d32) (by decide) rfl rfl ?_
        refine iincV X7.here hexec rfl 1 (hb hbytes d35) (by decide) rfl rfl ?_
        refine iincV X7.here hexec rfl 1 (hb hbytes d38) (by decide) rfl rfl ?_
        refine XS.goto X7.here hexec rfl (pc0 := 41) rfl (hb hbytes d41) (by decide) rfl ?_
        exact Steps.refl _)
      have c10 : Steps p.tables e below (s₁.setTop (entryFrame m #[.ref b, .int (Int32.ofNat o), .ref d, .int (Int32.ofNat q), .int (Int32.ofNat len)] 7)) (T7.setTop (mkF m 3 #[.val (.ref b), .val (.int (Int32.ofNat (o + (i + 1)))), .val (.ref d), .val (.int (Int32.ofNat (q + (i + 1)))), .val (.int (Int32.ofNat len)), .val (.int (Int32.ofNat (i + 1))), .val (.int (cv A (o + i)))] [])) := by
        have := c9
        rw [succ32, succ32, succ32] at this
        exact this
      exact ih (i + 1) (by omega) _ (Or.inr ⟨_, rfl, rfl⟩) T7 _ (by rw [copyLocs_step, ← List.append_assoc]; exact X7) (pl.trans p7) (fl.step (by omega) hlt (by simp)) c10
  obtain ⟨T9, B9, z9, X9, p9, f9, g9⟩ := loop len 0 (by omega) .unset (Or.inl rfl) s₁ B (by simpa [copyLocs] using X0) ⟨hB0.1, fun _ _ => rfl, rfl⟩ (Laid.zero _ _ _) c2
  have c11 : Steps p.tables e below (s₁.setTop (entryFrame m #[.ref b, .int (Int32.ofNat o), .ref d, .int (Int32.ofNat q), .int (Int32.ofNat len)] 7)) (T9.setTop (mkF m 46 #[.val (.ref b), .val (.int (Int32.ofNat (o + len))), .val (.ref d), .val (.int (Int32.ofNat (q + len))), .val (.int (Int32.ofNat len)), .val (.int (Int32.ofNat len)), z9] [.int (Int32.ofNat len)])) := g9.trans (by
    refine XS.iload X9.here hexec rfl (hb hbytes d3) rfl ?_
    refine XS.iload X9.here hexec rfl (hb hbytes d5) rfl ?_
    refine XS.icmpYes X9.here hexec rfl (pc0 := 7) rfl (hb hbytes d7) rfl (ii_ge_t (nlt32 (by omega) (Nat.le_refl _))) (by decide) rfl ?_
    refine XS.iload X9.here hexec rfl (hb hbytes d44) rfl ?_
    exact Steps.refl _)
  exact ⟨T9, some (.int (Int32.ofNat len)), _, _, _, X9, by simp, rfl, rfl, (fun h => by cases h), ⟨rfl, B9, p9.from hh0, f9⟩, fun fs hl => c11.trans (X9.ireturnOut hexec hret rfl (Or.inl rfl) (hb hbytes d46) hl)⟩
end Cmp5
namespace Cmp3
def yN : MethodName := ⟨"java/lang/StringUTF16", "compress", "([CII)[B"⟩
abbrev yB : ByteArray := jdk_52_method_16_code
theorem d0 : decode yB 0 = .ok (.iload_n 2, 1) := by decide +kernel
theorem d1 : decode yB 1 = .ok (.newarray .byte, 2) := by decide +kernel
theorem d3 : decode yB 3 = .ok (.astore_n 3, 1) := by decide +kernel
theorem d4 : decode yB 4 = .ok (.aload_n 0, 1) := by decide +kernel
theorem d5 : decode yB 5 = .ok (.iload_n 1, 1) := by decide +kernel
theorem d6 : decode yB 6 = .ok (.aload_n 3, 1) := by decide +kernel
theorem d7 : decode yB 7 = .ok (.iconst 0, 1) := by decide +kernel
theorem d8 : decode yB 8 = .ok (.iload_n 2, 1) := by decide +kernel
theorem d9 : decode yB 9 = .ok (.invokestatic 115, 3) := by decide +kernel
theorem d12 : decode yB 12 = .ok (.istore 4, 2) := by decide +kernel
theorem d14 : decode yB 14 = .ok (.iload 4, 2) := by decide +kernel
theorem d16 : decode yB 16 = .ok (.iload_n 2, 1) := by decide +kernel
theorem d17 : decode yB 17 = .ok (.if_icmp (.eq) 40, 3) := by decide +kernel
theorem d57 : decode yB 57 = .ok (.aload_n 3, 1) := by decide +kernel
theorem d58 : decode yB 58 = .ok (.areturn, 1) := by decide +kernel
def site : List Cond := [.arrayClass .byte, Cmp5.tab] ++ staticW U16 115 Cmp5.yN
def tab : Cond := tabOf yN yB 6 (some (.array .byte)) site
def P (b : Addr) (A : Cell) (o len : Nat) (args : Array Value) (s : State) : Prop := args = #[.ref b, .int (Int32.ofNat o), .int (Int32.ofNat len)] ∧ Ch b A s ∧ o + len ≤ A.slots.size ∧ len ≤ 536870912 ∧ ∀ i, i < len → ¬ 255 < cv A (o + i)
def E (b : Addr) (A : Cell) (o len : Nat) (r : Option Value) (s u : State) : Prop := NewArr .byte "[B" len (fun j => .int (lo8 (cv A (o + j)))) r s u ∧ u.heap.size = s.heap.size + 1
/-- no char of the range above 255: a new byte[] of their low bytes -/
theorem law (l : Launch) (b : Addr) (A : Cell) (o len : Nat) : Law l yN 3 3 1 18 yB 6 (some (.array .byte)) site (P b A o len) (E b A o len) [] 1 len := by
  refine Law.of_walk (plainFor_of_name (by decide +kernel)) (by decide +kernel) (by decide +kernel) (by decide) (fun _ _ h => by rw [h.1]; rfl) (fun _ U U' hal hh h => ⟨h.1, h.2.1.mv hal hh, h.2.2⟩) (fun r U U' V V' h1 hal h2 h => ⟨NewArr.mv r U U' V V' h1 hal h2 h.1, by rw [h1, h2]; exact h.2⟩) ?_
  intro p e s m args below meth c s₁ X0 hexec hbytes hml hret hlk hnm hown hh0 W hP
  obtain ⟨rfl, hA, l1, l2, hp⟩ := hP
  have a31 := hA.1.2.2.2
  have c1 : Steps p.tables e below (s₁.setTop (entryFrame m #[.ref b, .int (Int32.ofNat o), .int (Int32.ofNat len)] 6)) (s₁.setTop (mkF m 0 #[.val (.ref b), .val (.int (Int32.ofNat o)), .val (.int (Int32.ofNat len)), .unset, .unset, .unset] [])) := entry rfl
  have c2 : Steps p.tables e below (s₁.setTop (entryFrame m #[.ref b, .int (Int32.ofNat o), .int (Int32.ofNat len)] 6)) (s₁.setTop (mkF m 1 #[.val (.ref b), .val (.int (Int32.ofNat o)), .val (.int (Int32.ofNat len)), .unset, .unset, .unset] [.int (Int32.ofNat len)])) := c1.trans (by
    refine XS.iloadN X0.here hexec rfl (hb hbytes d0) rfl ?_
    exact Steps.refl _)
  obtain ⟨T3, B3, X3, ba3, bs3, bv3, bh3, bf3, st3⟩ := X0.anew hexec (atype := .byte) (wk W (.arrayClass .byte)) rfl (by show len * 1 ≤ _; omega) (by omega) (g := (mkF m 1 #[.val (.ref b), .val (.int (Int32.ofNat o)), .val (.int (Int32.ofNat len)), .unset, .unset, .unset] [.int (Int32.ofNat len)])) rfl (hb hbytes d1) (rest := []) rfl (Nat.le_refl _) (by show 0 + len ≤ len; omega)
  rw [hh0] at ba3 st3
  have kp3 : XT.Kept s T3 := (XT.Kept.of_eq hh0).push bh3
  have hA3 := hA.keep X3.warmed.alike (kp3 _ _ hA.1.1)
  have hne : b ≠ s.heap.size := hA.1.ne
  have c4 : Steps p.tables e below (s₁.setTop (entryFrame m #[.ref b, .int (Int32.ofNat o), .int (Int32.ofNat len)] 6)) (T3.setTop (mkF m 3 #[.val (.ref b), .val (.int (Int32.ofNat o)), .val (.int (Int32.ofNat len)), .unset, .unset, .unset] [.ref s.heap.size])) := c2.trans (st3 _ (Steps.refl _))
  have c5 : Steps p.tables e below (s₁.setTop (entryFrame m #[.ref b, .int (Int32.ofNat o), .int (Int32.ofNat len)] 6)) (T3.setTop (mkF m 9 #[.val (.ref b), .val (.int (Int32.ofNat o)), .val (.int (Int32.ofNat len)), .val (.ref s.heap.size), .unset, .unset] [.int (Int32.ofNat len), .int 0, .ref s.heap.size, .int (Int32.ofNat o), .ref b])) := c4.trans (by
    refine XS.astoreN X3.here hexec rfl (hb hbytes d3) rfl rfl rfl ?_
    refine XS.aloadN X3.here hexec rfl (hb hbytes d4) rfl rfl ?_
    refine XS.iloadN X3.here hexec rfl (hb hbytes d5) rfl ?_
    refine XS.aloadN X3.here hexec rfl (hb hbytes d6) rfl rfl ?_
    refine iconstV X3.here hexec rfl 0 (hb hbytes d7) (by decide) ?_
    refine XS.iloadN X3.here hexec rfl (hb hbytes d8) rfl ?_
    exact Steps.refl _)
  obtain ⟨v6, T6, X6, E6, g6⟩ := X3.callS hexec (Cmp5.law l b A s.heap.size B3 o 0 len) hown (wks W (staticW U16 115 Cmp5.yN)) (wk W Cmp5.tab) (W := 0) (Nat.le_of_ble_eq_true rfl) (Nat.le_of_ble_eq_true rfl) (Nat.le_refl _) (by show 0 + len + 0 ≤ len; omega) (g := (mkF m 9 #[.val (.ref b), .val (.int (Int32.ofNat o)), .val (.int (Int32.ofNat len)), .val (.ref s.heap.size), .unset, .unset] [.int (Int32.ofNat len), .int (Int32.ofNat 0), .ref s.heap.size, .int (Int32.ofNat o), .ref b])) rfl (by rw [hml]; rfl) c5 (argsL := [.ref b, .int (Int32.ofNat o), .ref s.heap.size, .int (Int32.ofNat 0), .int (Int32.ofNat len)]) (rest := []) rfl rfl (by show 2 * 0 + 0 ≤ _; decide) (hb hbytes d9) (⟨rfl, hA3, ba3, hne, l1, by rw [bs3]; simp, hp⟩)
  obtain ⟨rfl, B6, p6, f6⟩ := E6
  have c7 : Steps p.tables e below (s₁.setTop (entryFrame m #[.ref b, .int (Int32.ofNat o), .int (Int32.ofNat len)] 6)) (T6.setTop (mkF m 12 #[.val (.ref b), .val (.int (Int32.ofNat o)), .val (.int (Int32.ofNat len)), .val (.ref s.heap.size), .unset, .unset] [.int (Int32.ofNat len)])) := g6
  have c8 : Steps p.tables e below (s₁.setTop (entryFrame m #[.ref b, .int (Int32.ofNat o), .int (Int32.ofNat len)] 6)) (T6.setTop (mkF m 58 #[.val (.ref b), .val (.int (Int32.ofNat o)), .val (.int (Int32.ofNat len)), .val (.ref s.heap.size), .val (.int (Int32.ofNat len)), .unset] [.ref s.heap.size])) := c7.trans (by
    refine XS.istore X6.here hexec rfl (hb hbytes d12) rfl rfl ?_
    refine XS.iload X6.here hexec rfl (hb hbytes d14) rfl ?_
    refine XS.iloadN X6.here hexec rfl (hb hbytes d16) rfl ?_
    refine XS.icmpYes X6.here hexec rfl (pc0 := 17) rfl (hb hbytes d17) rfl (ii_eq_t rfl) (by decide) rfl ?_
    refine XS.aloadN X6.here hexec rfl (hb hbytes d57) rfl rfl ?_
    exact Steps.refl _)
  have X8 := X6.wide (L' := []) (cells' := 1) (slots' := len) (fun x hx hlt => by
    simp only [List.nil_append, copyLocs, List.mem_map, List.mem_range] at hx
    obtain ⟨i, -, rfl⟩ := hx
    exact absurd hlt (Nat.lt_irrefl _)) (Nat.le_refl _) (by omega)
  exact ⟨T6, some (.ref s.heap.size), _, _, _, X8, rfl, rfl, rfl, (fun h => by cases h), ⟨⟨rfl, B6, ba3.like (X3.warmed.alike.symm.trans X6.warmed.alike) p6.1 f6.1 f6.2.1 f6.2.2.1, f6.2.1.trans bv3, by rw [X6.warmed.alike.findClass, f6.1]; exact bf3, by rw [f6.2.2.1, bs3]; simp, fun j hj => by rw [f6.2.2.2 j, if_pos (by omega)]; rfl, kp3.put p6 (Nat.le_refl _)⟩, by rw [p6.2.2, bh3, hh0]; simp⟩, fun fs hl => c8.trans (X8.areturnOut hexec rfl hret rfl (hb hbytes d58) hl)⟩
end Cmp3
namespace CodL
def yN : MethodName := ⟨"java/lang/StringUTF16", "coderFromArrayLen", "([BI)B"⟩
abbrev yB : ByteArray := jdk_52_method_15_code
theorem d0 : decode yB 0 = .ok (.iload_n 1, 1) := by decide +kernel
theorem d1 : decode yB 1 = .ok (.aload_n 0, 1) := by decide +kernel
theorem d2 : decode yB 2 = .ok (.arraylength, 1) := by decide +kernel
theorem d3 : decode yB 3 = .ok (.isub, 1) := by decide +kernel
theorem d4 : decode yB 4 = .ok (.bipush 31, 2) := by decide +kernel
theorem d6 : decode yB 6 = .ok (.iushr, 1) := by decide +kernel
theorem d7 : decode yB 7 = .ok (.i2b, 1) := by decide +kernel
theorem d8 : decode yB 8 = .ok (.ireturn, 1) := by decide +kernel
def site : List Cond := []
def tab : Cond := tabOf yN yB 2 (some .byte) site
def P (d : Addr) (B : Cell) (args : Array Value) (s : State) : Prop := args = #[.ref d, .int (Int32.ofNat B.slots.size)] ∧ Arr .byte d B s
def E (r : Option Value) (s u : State) : Prop := XT.PureE (some (.int 0)) r s u
/-- an array as long as the number of chars: LATIN1 -/
theorem law (l : Launch) (d : Addr) (B : Cell) : Law l yN 2 2 0 0 yB 2 (some .byte) site (P d B) E [] 0 0 := by
  refine Law.of_walk (plainFor_of_name (by decide +kernel)) (by decide +kernel) (by decide +kernel) (by decide) (fun _ _ h => by rw [h.1]; rfl) (fun _ U U' hal hh h => ⟨h.1, h.2.mv hal hh⟩) (fun r U U' V V' h1 hal h2 h => XT.PureE.mv r U U' V V' h1 hal h2 h) ?_
  intro p e s m args below meth c s₁ X0 hexec hbytes hml hret hlk hnm hown hh0 W hP
  obtain ⟨rfl, hB⟩ := hP
  have hB0 := hB.mv X0.warmed.alike hh0
  have c1 : Steps p.tables e below (s₁.setTop (entryFrame m #[.ref d, .int (Int32.ofNat B.slots.size)] 2)) (s₁.setTop (mkF m 0 #[.val (.ref d), .val (.int (Int32.ofNat B.slots.size))] [])) := entry rfl
  have c2 : Steps p.tables e below (s₁.setTop (entryFrame m #[.ref d, .int (Int32.ofNat B.slots.size)] 2)) (s₁.setTop (mkF m 2 #[.val (.ref d), .val (.int (Int32.ofNat B.slots.size))] [.ref d, .int (Int32.ofNat B.slots.size)])) := c1.trans (by
    refine XS.iloadN X0.here hexec rfl (hb hbytes d0) rfl ?_
    refine XS.aloadN X0.here hexec rfl (hb hbytes d1) rfl rfl ?_
    exact Steps.refl _)
  have c3 : Steps p.tables e below (s₁.setTop (entryFrame m #[.ref d, .int (Int32.ofNat B.slots.size)] 2)) (s₁.setTop (mkF m 8 #[.val (.ref d), .val (.int (Int32.ofNat B.slots.size))] [.int (lo8 (ushr (Int32.ofNat B.slots.size - Int32.ofNat B.slots.size) 31))])) := c2.trans (by
    refine X0.alen hexec hB0 rfl rfl (hb hbytes d2) ?_
    refine XS.isub X0.here hexec rfl (hb hbytes d3) rfl ?_
    refine bipushV X0.here hexec rfl 31 (hb hbytes d4) (by decide) ?_
    refine iushr X0.here hexec rfl (hb hbytes d6) rfl ?_
    refine i2b X0.here hexec rfl (hb hbytes d7) rfl ?_
    exact Steps.refl _)
  have e0 : lo8 (ushr (Int32.ofNat B.slots.size - Int32.ofNat B.slots.size) 31) = 0 := by rw [Int32.sub_self]; decide
  rw [e0] at c3
  exact ⟨s₁, some (.int 0), _, _, _, X0, rfl, rfl, rfl, (fun h => by cases h), ⟨rfl, hh0⟩, fun fs hl => c3.trans (X0.ireturnOut hexec hret rfl (Or.inr (Or.inr (Or.inl rfl))) (hb hbytes d8) hl)⟩
end CodL
/-- the String at a is Latin-1 over a new byte[] (the heap's one new cell): the low bytes of the len chars of A from o on; every cell but a is kept -/
def Got (a : Addr) (D : Cell) (fV fC : Field) (A : Cell) (o len : Nat) (r : Option Value) (s u : State) : Prop := r = none ∧ ∃ D' V : Cell, Blank "java/lang/String" a D' u ∧ Same D D' [fV.slot, fC.slot] ∧ D'.slots[fV.slot]? = some (.ref s.heap.size) ∧ D'.slots[fC.slot]? = some (.int 0) ∧ Arr .byte s.heap.size V u ∧ V.vm = .none ∧ u.vm.findClass "[B" = some V.cls ∧ V.slots.size = len ∧ (∀ j, j < len → V.slots[j]? = some (.int (lo8 (cv A (o + j))))) ∧ (∀ (y : Addr) (c : Cell), y ≠ a → s.heap[y]? = some c → u.heap[y]? = some c) ∧ u.heap.size = s.heap.size + 1
theorem Got.mv {a : Addr} {D A : Cell} {fV fC : Field} {o len : Nat} : ∀ r (U U' V V' : State), U'.heap = U.heap → V.vm.Alike V'.vm → V'.heap = V.heap → Got a D fV fC A o len r U V → Got a D fV fC A o len r U' V' :=
  fun r U U' V V' h1 hal h2 ⟨e0, D', X, a1, a2, a3, a4, a5, a6, a7, a8, a9, a10, a11⟩ => ⟨e0, D', X, a1.mv hal h2, a2, by rw [h1]; exact a3, a4, by rw [h1]; exact a5.mv hal h2, a6, by rw [hal.findClass]; exact a7, a8, a9, by rw [h1, h2]; exact a10, by rw [h1, h2]; exact a11⟩
namespace New4
def yN : MethodName := ⟨"java/lang/String", "<init>", "([CIILjava/lang/Void;)V"⟩
abbrev yB : ByteArray := jdk_42_method_149_code
theorem d0 : decode yB 0 = .ok (.aload_n 0, 1) := by decide +kernel
theorem d1 : decode yB 1 = .ok (.invokespecial 1, 3) := by decide +kernel
theorem d4 : decode yB 4 = .ok (.iload_n 3, 1) := by decide +kernel
theorem d5 : decode yB 5 = .ok (.ifCond (.ne) 22, 3) := by decide +kernel
theorem d27 : decode yB 27 = .ok (.getstatic 38, 3) := by decide +kernel
theorem d30 : decode yB 30 = .ok (.ifCond (.eq) 28, 3) := by decide +kernel
theorem d33 : decode yB 33 = .ok (.aload_n 1, 1) := by decide +kernel
theorem d34 : decode yB 34 = .ok (.iload_n 2, 1) := by decide +kernel
theorem d35 : decode yB 35 = .ok (.iload_n 3, 1) := by decide +kernel
theorem d36 : decode yB 36 = .ok (.invokestatic 177, 3) := by decide +kernel
theorem d39 : decode yB 39 = .ok (.astore 5, 2) := by decide +kernel
theorem d41 : decode yB 41 = .ok (.aload_n 0, 1) := by decide +kernel
theorem d42 : decode yB 42 = .ok (.aload 5, 2) := by decide +kernel
theorem d44 : decode yB 44 = .ok (.iload_n 3, 1) := by decide +kernel
theorem d45 : decode yB 45 = .ok (.invokestatic 47, 3) := by decide +kernel
theorem d48 : decode yB 48 = .ok (.putfield 15, 3) := by decide +kernel
theorem d51 : decode yB 51 = .ok (.aload_n 0, 1) := by decide +kernel
theorem d52 : decode yB 52 = .ok (.aload 5, 2) := by decide +kernel
theorem d54 : decode yB 54 = .ok (.putfield 9, 3) := by decide +kernel
theorem d57 : decode yB 57 = .ok (.return_, 1) := by decide +kernel
def site : List Cond := [.fieldLink "java/lang/String" 38 "java/lang/String" "COMPACT_STRINGS" "Z", Cmp3.tab, CodL.tab, .laysFinal "java/lang/String" "java/lang/String" "value" "[B", .fieldLink "java/lang/String" 9 "java/lang/String" "value" "[B", .laysFinal "java/lang/String" "java/lang/String" "coder" "B", .fieldLink "java/lang/String" 15 "java/lang/String" "coder" "B"] ++ objW "java/lang/String" 1 ++ staticW "java/lang/String" 177 Cmp3.yN ++ staticW "java/lang/String" 47 CodL.yN
def tab : Cond := tabOf yN yB 6 none site
def P (a : Addr) (D : Cell) (fV fC : Field) (b : Addr) (A : Cell) (z : Int32) (o len : Nat) (args : Array Value) (s : State) : Prop := args = #[.ref a, .ref b, .int (Int32.ofNat o), .int (Int32.ofNat len), .null] ∧ Blank "java/lang/String" a D s ∧ Found "java/lang/String" "value" "[B" fV s ∧ Found "java/lang/String" "coder" "B" fC s ∧ Ch b A s ∧ StaticIs s "java/lang/String" "COMPACT_STRINGS" "Z" (.int z) ∧ ¬ z = 0 ∧ 0 < len ∧ o + len ≤ A.slots.size ∧ len ≤ 536870912 ∧ ∀ i, i < len → ¬ 255 < cv A (o + i)
def E (a : Addr) (D : Cell) (fV fC : Field) (A : Cell) (o len : Nat) (r : Option Value) (s u : State) : Prop := Got a D fV fC A o len r s u
/-- len > 0, no char of the range above 255: a Latin-1 String of their low bytes -/
theorem law (l : Launch) (a : Addr) (D : Cell) (fV fC : Field) (b : Addr) (A : Cell) (z : Int32) (o len : Nat) : Law l yN 5 4 2 35 yB 6 none site (P a D fV fC b A z o len) (E a D fV fC A o len) [⟨a, fC.slot⟩, ⟨a, fV.slot⟩] 1 len := by
  refine Law.of_walk (plainFor_of_name (by decide +kernel)) (by decide +kernel) (by decide +kernel) (by decide) (fun _ _ h => by rw [h.1]; rfl) (fun _ U U' hal hh h => ⟨h.1, h.2.1.mv hal hh, h.2.2.1.al hal, h.2.2.2.1.al hal, h.2.2.2.2.1.mv hal hh, h.2.2.2.2.2.1.there hal hh, h.2.2.2.2.2.2⟩) (fun r U U' V V' h1 hal h2 h => Got.mv r U U' V V' h1 hal h2 h) ?_
  intro p e s m args below meth c s₁ X0 hexec hbytes hml hret hlk hnm hown hh0 W hP
  obtain ⟨rfl, hB, f1, f2, hA, s1, hz, l0, l1, l2, hp⟩ := hP
  have a31 := hA.1.2.2.2
  have c1 : Steps p.tables e below (s₁.setTop (entryFrame m #[.ref a, .ref b, .int (Int32.ofNat o), .int (Int32.ofNat len), .null] 6)) (s₁.setTop (mkF m 0 #[.val (.ref a), .val (.ref b), .val (.int (Int32.ofNat o)), .val (.int (Int32.ofNat len)), .val .null, .unset] [])) := entry rfl
  have c2 : Steps p.tables e below (s₁.setTop (entryFrame m #[.ref a, .ref b, .int (Int32.ofNat o), .int (Int32.ofNat len), .null] 6)) (s₁.setTop (mkF m 1 #[.val (.ref a), .val (.ref b), .val (.int (Int32.ofNat o)), .val (.int (Int32.ofNat len)), .val .null, .unset] [.ref a])) := c1.trans (by
    refine XS.aloadN X0.here hexec rfl (hb hbytes d0) rfl rfl ?_
    exact Steps.refl _)
  obtain ⟨T3, X3, q3, st3⟩ := X0.oinit hexec hown (wks W (objW "java/lang/String" 1)) (g := (mkF m 1 #[.val (.ref a), .val (.ref b), .val (.int (Int32.ofNat o)), .val (.int (Int32.ofNat len)), .val .null, .unset] [.ref a])) rfl (by rw [hml]; rfl) (rest := []) rfl (hb hbytes d1) (W := 0) (by show 2 * 0 + 0 ≤ _; decide) (Nat.le_of_ble_eq_true rfl) (Nat.le_of_ble_eq_true rfl)
  have hh3 := q3.trans hh0
  have c4 : Steps p.tables e below (s₁.setTop (entryFrame m #[.ref a, .ref b, .int (Int32.ofNat o), .int (Int32.ofNat len), .null] 6)) (T3.setTop (mkF m 27 #[.val (.ref a), .val (.ref b), .val (.int (Int32.ofNat o)), .val (.int (Int32.ofNat len)), .val .null, .unset] [])) := (c2.trans (st3 _ (Steps.refl _))).trans (by
    refine XS.iloadN X3.here hexec rfl (hb hbytes d4) rfl ?_
    refine XS.ifYes X3.here hexec rfl (pc0 := 5) rfl (hb hbytes d5) rfl (i0_ne_t (nz32 (by omega) l0)) (by decide) rfl ?_
    exact Steps.refl _)
  obtain ⟨T5, X5, q5, st5⟩ := X3.sget hexec hown (wk W (.fieldLink "java/lang/String" 38 "java/lang/String" "COMPACT_STRINGS" "Z")) s1 (fun _ _ h => by rw [hh3]; exact h) (g := (mkF m 27 #[.val (.ref a), .val (.ref b), .val (.int (Int32.ofNat o)), .val (.int (Int32.ofNat len)), .val .null, .unset] [])) rfl (hb hbytes d27)
  have hh5 := q5.trans hh3
  have c6 : Steps p.tables e below (s₁.setTop (entryFrame m #[.ref a, .ref b, .int (Int32.ofNat o), .int (Int32.ofNat len), .null] 6)) (T5.setTop (mkF m 30 #[.val (.ref a), .val (.ref b), .val (.int (Int32.ofNat o)), .val (.int (Int32.ofNat len)), .val .null, .unset] [.int z])) := c4.trans (st5 _ (Steps.refl _))
  have c7 : Steps p.tables e below (s₁.setTop (entryFrame m #[.ref a, .ref b, .int (Int32.ofNat o), .int (Int32.ofNat len), .null] 6)) (T5.setTop (mkF m 36 #[.val (.ref a), .val (.ref b), .val (.int (Int32.ofNat o)), .val (.int (Int32.ofNat len)), .val .null, .unset] [.int (Int32.ofNat len), .int (Int32.ofNat o), .ref b])) := c6.trans (by
    refine XS.ifNo X5.here hexec rfl (hb hbytes d30) rfl (i0_eq_f hz) ?_
    refine XS.aloadN X5.here hexec rfl (hb hbytes d33) rfl rfl ?_
    refine XS.iloadN X5.here hexec rfl (hb hbytes d34) rfl ?_
    refine XS.iloadN X5.here hexec rfl (hb hbytes d35) rfl ?_
    exact Steps.refl _)
  obtain ⟨v8, T8, X8, E8, g8⟩ := X5.callS hexec (Cmp3.law l b A o len) hown (wks W (staticW "java/lang/String" 177 Cmp3.yN)) (wk W Cmp3.tab) (W := 0) (Nat.le_of_ble_eq_true rfl) (Nat.le_of_ble_eq_true rfl) (Nat.le_refl _) (by show 0 + len ≤ len; omega) (g := (mkF m 36 #[.val (.ref a), .val (.ref b), .val (.int (Int32.ofNat o)), .val (.int (Int32.ofNat len)), .val .null, .unset] [.int (Int32.ofNat len), .int (Int32.ofNat o), .ref b])) rfl (by rw [hml]; rfl) c7 (argsL := [.ref b, .int (Int32.ofNat o), .int (Int32.ofNat len)]) (rest := []) rfl rfl (by show 2 * 0 + 0 ≤ _; decide) (hb hbytes d36) (⟨rfl, hA.mv X5.warmed.alike hh5, l1, l2, hp⟩)
  obtain ⟨e8, z8⟩ := E8
  obtain ⟨rfl, N, n1, n2, n3, n4, n5, n6⟩ := NewArr.mv _ T5 s _ _ hh5.symm (Vm.Alike.refl _) rfl e8
  rw [hh5] at z8
  have hB1 := hB.keep X8.warmed.alike (n6 _ _ hB.1)
  have hne : s.heap.size ≠ a := (Nat.ne_of_lt (Array.getElem?_eq_some_iff.mp hB.1).1).symm
  have c9 : Steps p.tables e below (s₁.setTop (entryFrame m #[.ref a, .ref b, .int (Int32.ofNat o), .int (Int32.ofNat len), .null] 6)) (T8.setTop (mkF m 39 #[.val (.ref a), .val (.ref b), .val (.int (Int32.ofNat o)), .val (.int (Int32.ofNat len)), .val .null, .unset] [.ref s.heap.size])) := g8
  have c10 : Steps p.tables e below (s₁.setTop (entryFrame m #[.ref a, .ref b, .int (Int32.ofNat o), .int (Int32.ofNat len), .null] 6)) (T8.setTop (mkF m 45 #[.val (.ref a), .val (.ref b), .val (.int (Int32.ofNat o)), .val (.int (Int32.ofNat len)), .val .null, .val (.ref s.heap.size)] [.int (Int32.ofNat N.slots.size), .ref s.heap.size, .ref a])) := by
    have hc : Steps p.tables e below (s₁.setTop (entryFrame m #[.ref a, .ref b, .int (Int32.ofNat o), .int (Int32.ofNat len), .null] 6)) (T8.setTop (mkF m 45 #[.val (.ref a), .val (.ref b), .val (.int (Int32.ofNat o)), .val (.int (Int32.ofNat len)), .val .null, .val (.ref s.heap.size)] [.int (Int32.ofNat len), .ref s.heap.size, .ref a])) := c9.trans (by
      refine XS.astore X8.here hexec rfl (hb hbytes d39) rfl rfl rfl ?_
      refine XS.aloadN X8.here hexec rfl (hb hbytes d41) rfl rfl ?_
      refine XS.aload X8.here hexec rfl (hb hbytes d42) rfl rfl ?_
      refine XS.iloadN X8.here hexec rfl (hb hbytes d44) rfl ?_
      exact Steps.refl _)
    rw [n4]; exact hc
  obtain ⟨v11, T11, X11, E11, g11⟩ := X8.callS hexec (CodL.law l s.heap.size N) hown (wks W (staticW "java/lang/String" 47 CodL.yN)) (wk W CodL.tab) (W := 1) (Nat.le_of_ble_eq_true rfl) (Nat.le_of_ble_eq_true rfl) (Nat.le_refl _) (by show 0 + len + 0 ≤ len; omega) (g := (mkF m 45 #[.val (.ref a), .val (.ref b), .val (.int (Int32.ofNat o)), .val (.int (Int32.ofNat len)), .val .null, .val (.ref s.heap.size)] [.int (Int32.ofNat N.slots.size), .ref s.heap.size, .ref a])) rfl (by rw [hml]; rfl) c10 (argsL := [.ref s.heap.size, .int (Int32.ofNat N.slots.size)]) (rest := [.ref a]) rfl rfl (by show 2 * 0 + (1 + 0) ≤ _; decide) (hb hbytes d45) (⟨rfl, n1⟩)
  obtain ⟨rfl, q11⟩ := E11
  have hB11 := hB1.mv (X8.warmed.alike.symm.trans X11.warmed.alike) q11
  have c12 : Steps p.tables e below (s₁.setTop (entryFrame m #[.ref a, .ref b, .int (Int32.ofNat o), .int (Int32.ofNat len), .null] 6)) (T11.setTop (mkF m 48 #[.val (.ref a), .val (.ref b), .val (.int (Int32.ofNat o)), .val (.int (Int32.ofNat len)), .val .null, .val (.ref s.heap.size)] [.int 0, .ref a])) := g11
  obtain ⟨T13, X13, p13, bl13, sl13, st13⟩ := X11.finit hexec hown (wk W (.fieldLink "java/lang/String" 15 "java/lang/String" "coder" "B")) (Or.inr ⟨_, (wk W (.laysFinal "java/lang/String" "java/lang/String" "coder" "B"))⟩) (Or.inl ⟨rfl, hnm⟩) f2 (Or.inl rfl) hB11 (t := .byte) (by decide +kernel) rfl (g := (mkF m 48 #[.val (.ref a), .val (.ref b), .val (.int (Int32.ofNat o)), .val (.int (Int32.ofNat len)), .val .null, .val (.ref s.heap.size)] [.int 0, .ref a])) rfl (rest := []) rfl (hb hbytes d48)
  have c14 : Steps p.tables e below (s₁.setTop (entryFrame m #[.ref a, .ref b, .int (Int32.ofNat o), .int (Int32.ofNat len), .null] 6)) (T13.setTop (mkF m 54 #[.val (.ref a), .val (.ref b), .val (.int (Int32.ofNat o)), .val (.int (Int32.ofNat len)), .val .null, .val (.ref s.heap.size)] [.ref s.heap.size, .ref a])) := (c12.trans (st13 _ (Steps.refl _))).trans (by
    refine XS.aloadN X13.here hexec rfl (hb hbytes d51) rfl rfl ?_
    refine XS.aload X13.here hexec rfl (hb hbytes d52) rfl rfl ?_
    exact Steps.refl _)
  obtain ⟨T15, X15, p15, bl15, sl15, st15⟩ := X13.finit hexec hown (wk W (.fieldLink "java/lang/String" 9 "java/lang/String" "value" "[B")) (Or.inr ⟨_, (wk W (.laysFinal "java/lang/String" "java/lang/String" "value" "[B"))⟩) (Or.inl ⟨rfl, hnm⟩) f1 (Or.inl rfl) bl13 (t := (.array .byte)) (by decide +kernel) rfl (g := (mkF m 54 #[.val (.ref a), .val (.ref b), .val (.int (Int32.ofNat o)), .val (.int (Int32.ofNat len)), .val .null, .val (.ref s.heap.size)] [.ref s.heap.size, .ref a])) rfl (rest := []) rfl (hb hbytes d54)
  have c16 : Steps p.tables e below (s₁.setTop (entryFrame m #[.ref a, .ref b, .int (Int32.ofNat o), .int (Int32.ofNat len), .null] 6)) (T15.setTop (mkF m 57 #[.val (.ref a), .val (.ref b), .val (.int (Int32.ofNat o)), .val (.int (Int32.ofNat len)), .val .null, .val (.ref s.heap.size)] [])) := c14.trans (st15 _ (Steps.refl _))
  have ap := apart (Or.inr ⟨_, (wk W (.laysFinal "java/lang/String" "java/lang/String" "value" "[B"))⟩) (Or.inr ⟨_, (wk W (.laysFinal "java/lang/String" "java/lang/String" "coder" "B"))⟩) f1 f2 (t₁ := .array .byte) (t₂ := .byte) (by decide +kernel) (by decide +kernel) (by decide)
  have al := X8.warmed.alike.symm.trans X15.warmed.alike
  have n7 : T11.heap[s.heap.size]? = some N := by rw [q11]; exact n1.1
  exact ⟨T15, none, _, _, _, X15, by simp, rfl, by omega, (fun _ => rfl), ⟨rfl, _, N, bl15, ((Same.refl D _).set _ (by simp)).set _ (by simp), sl15, (Cell.slots_setSlot_ne _ ap).trans sl13, n1.keep al (p15.other hne (p13.other hne n7)), n2, by rw [al.findClass]; exact n3, n4, n5, fun y c h1 h2 => p15.other h1 (p13.other h1 (by rw [q11]; exact n6 y c h2)), by rw [p15.2.2, p13.2.2, q11]; exact z8⟩, fun fs hl => c16.trans (X15.returnOut hexec hret (hb hbytes d57) hl)⟩
end New4
namespace New1
def yN : MethodName := ⟨"java/lang/String", "<init>", "([C)V"⟩
abbrev yB : ByteArray := jdk_42_method_3_code
theorem d0 : decode yB 0 = .ok (.aload_n 0, 1) := by decide +kernel
theorem d1 : decode yB 1 = .ok (.aload_n 1, 1) := by decide +kernel
theorem d2 : decode yB 2 = .ok (.iconst 0, 1) := by decide +kernel
theorem d3 : decode yB 3 = .ok (.aload_n 1, 1) := by decide +kernel
theorem d4 : decode yB 4 = .ok (.arraylength, 1) := by decide +kernel
theorem d5 : decode yB 5 = .ok (.aconst_null, 1) := by decide +kernel
theorem d6 : decode yB 6 = .ok (.invokespecial 27, 3) := by decide +kernel
theorem d9 : decode yB 9 = .ok (.return_, 1) := by decide +kernel
def site : List Cond := [New4.tab] ++ initW "java/lang/String" 27 New4.yN
def tab : Cond := tabOf yN yB 2 none site
def P (a : Addr) (D : Cell) (fV fC : Field) (b : Addr) (A : Cell) (z : Int32) (args : Array Value) (s : State) : Prop := args = #[.ref a, .ref b] ∧ Blank "java/lang/String" a D s ∧ Found "java/lang/String" "value" "[B" fV s ∧ Found "java/lang/String" "coder" "B" fC s ∧ Ch b A s ∧ StaticIs s "java/lang/String" "COMPACT_STRINGS" "Z" (.int z) ∧ ¬ z = 0 ∧ 0 < A.slots.size ∧ A.slots.size ≤ 536870912 ∧ ∀ i, i < A.slots.size → ¬ 255 < cv A i
def E (a : Addr) (D : Cell) (fV fC : Field) (A : Cell) (r : Option Value) (s u : State) : Prop := Got a D fV fC A 0 A.slots.size r s u
/-- new String(chars), not empty, no char above 255: a Latin-1 String of their low bytes -/
theorem law (l : Launch) (a : Addr) (D : Cell) (fV fC : Field) (b : Addr) (A : Cell) (z : Int32) : Law l yN 2 1 3 52 yB 2 none site (P a D fV fC b A z) (E a D fV fC A) [⟨a, fC.slot⟩, ⟨a, fV.slot⟩] 1 A.slots.size := by
  refine Law.of_walk (plainFor_of_name (by decide +kernel)) (by decide +kernel) (by decide +kernel) (by decide) (fun _ _ h => by rw [h.1]; rfl) (fun _ U U' hal hh h => ⟨h.1, h.2.1.mv hal hh, h.2.2.1.al hal, h.2.2.2.1.al hal, h.2.2.2.2.1.mv hal hh, h.2.2.2.2.2.1.there hal hh, h.2.2.2.2.2.2⟩) (fun r U U' V V' h1 hal h2 h => Got.mv r U U' V V' h1 hal h2 h) ?_
  intro p e s m args below meth c s₁ X0 hexec hbytes hml hret hlk hnm hown hh0 W hP
  obtain ⟨rfl, hB, f1, f2, hA, s1, hz, l0, l2, hp⟩ := hP
  have c1 : Steps p.tables e below (s₁.setTop (entryFrame m #[.ref a, .ref b] 2)) (s₁.setTop (mkF m 0 #[.val (.ref a), .val (.ref b)] [])) := entry rfl
  have c2 : Steps p.tables e below (s₁.setTop (entryFrame m #[.ref a, .ref b] 2)) (s₁.setTop (mkF m 6 #[.val (.ref a), .val (.ref b)] [.null, .int (Int32.ofNat A.slots.size), .int 0, .ref b, .ref a])) := c1.trans (by
    refine XS.aloadN X0.here hexec rfl (hb hbytes d0) rfl rfl ?_
    refine XS.aloadN X0.here hexec rfl (hb hbytes d1) rfl rfl ?_
    refine iconstV X0.here hexec rfl 0 (hb hbytes d2) (by decide) ?_
    refine XS.aloadN X0.here hexec rfl (hb hbytes d3) rfl rfl ?_
    refine X0.alen hexec (hA.1.mv X0.warmed.alike hh0) rfl rfl (hb hbytes d4) ?_
    refine XS.aconstNull X0.here hexec rfl (hb hbytes d5) ?_
    exact Steps.refl _)
  obtain ⟨v3, T3, X3, E3, g3⟩ := X0.callN hexec (New4.law l a D fV fC b A z 0 A.slots.size) rfl hown (wks W (initW "java/lang/String" 27 New4.yN)) (W New4.tab (by simp only [site, List.mem_cons, List.mem_append, true_or, or_true])) (W := 0) (Nat.le_of_ble_eq_true rfl) (Nat.le_of_ble_eq_true rfl) (Nat.le_refl _) (by show 0 + A.slots.size ≤ A.slots.size; omega) (g := (mkF m 6 #[.val (.ref a), .val (.ref b)] [.null, .int (Int32.ofNat A.slots.size), .int (Int32.ofNat 0), .ref b, .ref a])) rfl (by rw [hml]; rfl) c2 (argsL := [.ref b, .int (Int32.ofNat 0), .int (Int32.ofNat A.slots.size), .null]) (rest := []) rfl rfl (by show 2 * 0 + 0 ≤ _; decide) (hb hbytes d6) (⟨rfl, hB.mv X0.warmed.alike hh0, f1.al X0.warmed.alike, f2.al X0.warmed.alike, hA.mv X0.warmed.alike hh0, s1.there X0.warmed.alike hh0, hz, l0, by omega, l2, fun i hi => by rw [Nat.zero_add]; exact hp i hi⟩)
  have e0 := Got.mv _ s₁ s _ _ hh0.symm (Vm.Alike.refl _) rfl E3
  obtain rfl := e0.1
  have c4 : Steps p.tables e below (s₁.setTop (entryFrame m #[.ref a, .ref b] 2)) (T3.setTop (mkF m 9 #[.val (.ref a), .val (.ref b)] [])) := g3
  exact ⟨T3, none, _, _, _, X3, by simp, rfl, by omega, (fun _ => rfl), e0, fun fs hl => c4.trans (X3.returnOut hexec hret (hb hbytes d9) hl)⟩
theorem pays {l : Launch} {R : Room} {p : Program} {e : Env} {below : List Frame} {s : State} {sargs : Array Value} {len W : Nat} (a : Addr) (D : Cell) (fV fC : Field) (b : Addr) (A : Cell) (z : Int32) (htab : tab.before sargs s = true) (hfr : 4 ≤ R.frames) (hlo : W + 65 ≤ R.locals) :
    Back l R p e below s sargs yN len W (fun A₁ a₁ => A₁.cells + 1 ≤ R.cells ∧ A₁.slots + A.slots.size ≤ R.slots ∧ P a D fV fC b A z a₁ A₁.U) (fun A₁ _ v₁ B₁ => E a D fV fC A v₁ A₁.U B₁.U ∧ B₁.locs = A₁.locs ++ [⟨a, fC.slot⟩, ⟨a, fV.slot⟩] ∧ B₁.cells = A₁.cells + 1 ∧ B₁.slots = A₁.slots + A.slots.size) :=
  (law l a D fV fC b A z).pays htab hfr (by omega)
end New1
end StrChars
namespace StrChars.Road
open Jvm Sem ClassFile Op Lib Jvm.Stand Jvm.Free Jvm.Free.XT
open Jvm.Lib.Cold (StaticIs)
abbrev ST : String := "java/lang/String"
/-- every table word that New1's law asks, flat -/
abbrev words : List Jvm.Cond := [.code New1.yN New1.yB 2 none, .initialized ST, .methodLink ST 27 New4.yN, .instanceMethod New4.yN,
  .code New4.yN New4.yB 6 none, .fieldLink ST 38 ST "COMPACT_STRINGS" "Z", .laysFinal ST ST "value" "[B", .fieldLink ST 9 ST "value" "[B", .laysFinal ST ST "coder" "B", .fieldLink ST 15 ST "coder" "B",
  .methodLink ST 1 Lib.objectInit, .instanceMethod Lib.objectInit, .code Lib.objectInit ⟨#[0xb1]⟩ 1 none, .methodLink ST 177 Cmp3.yN, .static Cmp3.yN, .methodLink ST 47 CodL.yN, .static CodL.yN,
  .code Cmp3.yN Cmp3.yB 6 (some (.array .byte)), .initialized U16, .arrayClass .byte, .methodLink U16 115 Cmp5.yN, .static Cmp5.yN, .code Cmp5.yN Cmp5.yB 7 (some .int), .code CodL.yN CodL.yB 2 (some .byte)]
theorem tab_of {a : Array Value} {s : State} (h : ∀ w ∈ words, w.before a s = true) : New1.tab.before a s = true := by
  have h5 : Cmp5.tab.before a s = true := unparts (wk h (.code Cmp5.yN Cmp5.yB 7 (some .int))) (wks h (.initialized Cmp5.yN.cls :: Cmp5.site))
  have hc : CodL.tab.before a s = true := unparts (wk h (.code CodL.yN CodL.yB 2 (some .byte))) (wks h (.initialized CodL.yN.cls :: CodL.site))
  have q5 : ∀ w ∈ Cmp5.tab :: words, w.before a s = true := fun w hw => (List.mem_cons.mp hw).elim (fun e => e ▸ h5) (h w)
  have h3 : Cmp3.tab.before a s = true := unparts (wk q5 (.code Cmp3.yN Cmp3.yB 6 (some (.array .byte)))) (wks q5 (.initialized Cmp3.yN.cls :: Cmp3.site))
  have q3 : ∀ w ∈ Cmp3.tab :: CodL.tab :: words, w.before a s = true := fun w hw => (List.mem_cons.mp hw).elim (fun e => e ▸ h3) fun hw => (List.mem_cons.mp hw).elim (fun e => e ▸ hc) (h w)
  have h4 : New4.tab.before a s = true := unparts (wk q3 (.code New4.yN New4.yB 6 none)) (wks q3 (.initialized New4.yN.cls :: New4.site))
  have q4 : ∀ w ∈ New4.tab :: words, w.before a s = true := fun w hw => (List.mem_cons.mp hw).elim (fun e => e ▸ h4) (h w)
  exact unparts (wk q4 (.code New1.yN New1.yB 2 none)) (wks q4 (.initialized New1.yN.cls :: New1.site))
/-- the words ride from the start Z to the walk's own state -/
theorem moved {Z s : State} {a0 args : Array Value} (hZ : Z.Warmed39 s.vm) (hw : ∀ d ∈ words, d.before a0 Z = true) : ∀ d ∈ words, d.before args s = true := fun d hd => by
  have q := hw d hd
  have t : ∀ d ∈ words, d = .arrayClass .byte ∨ (d.onTables && d.keepsFace) = true := by decide +kernel
  rcases t d hd with rfl | t
  · exact RoadKit.mvA hZ q
  · exact RoadKit.mv hZ q t
/-- WHAT COMES BACK, over the tables of the start Z: h the heap at the call, h' behind it -/
def Q (Z : State) (x : Addr) (A : Cell) (h : Heap) (v : Option Value) (h' : Heap) (L : List Loc) : Prop := v = none ∧ (∀ y ∈ L, y.base = x) ∧ RoadKit.Keep h h' [x] ∧ h'.size = h.size + 1 ∧ RoadKit.Exa Z h' x ST ∧ RoadKit.Fld Z h' x ST "value" "[B" (.ref h.size) ∧ RoadKit.Fld Z h' x ST "coder" "B" (.int 0) ∧
  (∃ V : Cell, RoadKit.Arr Z h' h.size V .byte ∧ V.vm = .none ∧ Z.vm.findClass "[B" = some V.cls ∧ V.slots.size = A.slots.size ∧ ∀ j, j < A.slots.size → V.slots[j]? = some (.int (lo8 (cv A j)))) ∧
  ∀ (O n d : String) (w : Value), RoadKit.Fld Z h x O n d w → RoadKit.slotOf Z O n d ≠ RoadKit.slotOf Z ST "value" "[B" → RoadKit.slotOf Z O n d ≠ RoadKit.slotOf Z ST "coder" "B" → RoadKit.Fld Z h' x O n d w
/-- **new String(chars) AT A CALL, IN THE ROAD'S FORM**: for specialBack behind newO: x the fresh String, b the char[] with the cell A -/
theorem back {p : Program} {l : Launch} {e : Env} {R : Room} {s : State} {args : Array Value} {below : List Frame} {len W : Nat} {Z : State} {a0 : Array Value} {h : Heap} (hZ : Z.Warmed39 s.vm) (hw : ∀ d ∈ words, d.before a0 Z = true) {kI : Nat} (wi : (Jvm.Cond.instantiable ST kI).before a0 Z = true)
    {x b : Addr} {A : Cell} {z : Int32} {v0 c0 : Value} (E : RoadKit.Exa Z h x ST) (V : RoadKit.Fld Z h x ST "value" "[B" v0) (C : RoadKit.Fld Z h x ST "coder" "B" c0) (K : RoadKit.Arr Z h b A .char) (hty : Typed .char A) (S : RoadKit.Sta Z h ST "COMPACT_STRINGS" "Z" (.int z)) (hz : ¬ z = 0)
    (l0 : 0 < A.slots.size) (l2 : A.slots.size ≤ 536870912) (hp : ∀ i, i < A.slots.size → ¬ 255 < cv A i) (hfr : 4 ≤ R.frames) (hlo : W + 65 ≤ R.locals) :
    Back l R p e below s args New1.yN len W (fun P a => a = #[.ref x, .ref b] ∧ P.U.heap = h ∧ P.cells + 1 ≤ R.cells ∧ P.slots + A.slots.size ≤ R.slots)
      (fun P _ v B => ∃ L, Q Z x A h v B.U.heap L ∧ B.locs = P.locs ++ L ∧ B.cells = P.cells + 1 ∧ B.slots = P.slots + A.slots.size) := by
  intro m meth c P g ig mk a X hg hsize hdg hW hn hp'
  obtain ⟨rfl, rfl, r1, r2⟩ := hp'
  have al : Z.vm.Alike P.U.vm := hZ.alike.trans X.warmed.alike
  obtain ⟨D, cfV, kV, iV, fV, hD, gV, stV, knV, obV, asV, slV⟩ := id V
  obtain ⟨D', cfC, kC, iC, fC, hD', gC, stC, -, -, asC, slC⟩ := id C
  cases hD.symm.trans hD'
  obtain ⟨D2, kD, e1, e2, e3, e4, e5⟩ := id E
  cases hD.symm.trans e1
  obtain ⟨c2, k2, i1, i2, i3, -⟩ := Cond.instantiable_spec wi
  cases e2.symm.trans i1
  cases e3.symm.trans i2
  obtain ⟨kU, u1, u2⟩ := al.2.2 _ _ e3
  have hB : Blank ST x D P.U := ⟨hD, ⟨knV, fun q hq => by rw [hq] at obV; cases obV⟩, by rw [al.findClass]; exact e2, kU, u1, by rw [u2]; exact i3, by rw [u2]; exact e5 i3⟩
  have F1 : Found ST "value" "[B" fV P.U := ⟨SBG.found_only al ⟨cfV, kV, iV, gV⟩, stV⟩
  have F2 : Found ST "coder" "B" fC P.U := ⟨SBG.found_only al ⟨cfC, kC, iC, gC⟩, stC⟩
  have hA : Ch b A P.U := ⟨⟨K.1, State.isArrayOf_alike al K.2.1, K.2.2, by omega⟩, hty⟩
  have hS : StaticIs P.U ST "COMPACT_STRINGS" "Z" (.int z) := by
    obtain ⟨cfS, iS, kS, fS, st, cS, t1, t2, t3, t4, t5, t6, t7⟩ := S
    exact StaticIs.there (s := { Z with heap := P.U.heap }) ⟨cfS, iS, kS, fS, st, cS, t1, t2, t3, t4, t5, (fun q => by rw [q] at t6; cases t6), t7⟩ al rfl
  obtain ⟨v, B, X', ⟨⟨hv, E', V', q1, q2, q3, q4, q5, q6, q7, q8, q9, q10, q11⟩, hl, hc, hs⟩, st⟩ := New1.pays x D fV fC b A z (tab_of (moved hZ hw)) hfr hlo m meth c P g ig mk _ X hg hsize hdg hW hn ⟨r1, r2, rfl, hB, F1, F2, hA, hS, hz, l0, l2, hp⟩
  have al' : Z.vm.Alike B.U.vm := hZ.alike.trans X'.warmed.alike
  have hsz : E'.slots.size = D.slots.size := by
    obtain ⟨-, -, -, kB, w1, w2, w3⟩ := q1
    obtain ⟨kB', y1, y2⟩ := al'.2.2 _ _ e3
    rw [q2.2.1] at w1
    cases w1.symm.trans y1
    rw [w3, e5 i3, y2]
  refine ⟨v, B, X', ⟨_, ⟨hv, ?_, ⟨by omega, fun y cy hy hn' => q10 y cy (by simpa using hn') hy, fun y cy hy => ?_⟩, q11, ⟨E', _, q1.1, by rw [q2.2.1]; exact e2, by rw [q2.2.1]; exact e3, by rw [q2.1]; exact obV, fun _ => by rw [hsz]; exact e5 i3⟩,
    ⟨E', cfV, kV, iV, fV, q1.1, gV, stV, by rw [q2.1]; exact knV, by rw [q2.1]; exact obV, by rw [q2.2.1]; exact asV, q3⟩, ⟨E', cfC, kC, iC, fC, q1.1, gC, stC, by rw [q2.1]; exact knV, by rw [q2.1]; exact obV, by rw [q2.2.1]; exact asC, q4⟩,
    ⟨V', ⟨q5.1, State.isArrayOf_alike al'.symm q5.2.1, q5.2.2.1⟩, q6, by rw [← al'.findClass]; exact q7, q8, fun j hj => by have := q9 j hj; rwa [Nat.zero_add] at this⟩, fun O n d w F n1 n2 => ?_⟩, hl, hc, hs⟩, st⟩
  · intro y hy
    simp only [List.mem_cons, List.not_mem_nil, or_false] at hy
    rcases hy with rfl | rfl <;> rfl
  · by_cases q : y = x
    · subst q
      cases hD.symm.trans hy
      exact ⟨E', q1.1, q2.2.1, q2.1, hsz⟩
    · exact ⟨cy, q10 y cy q hy, rfl, rfl, rfl⟩
  · obtain ⟨D3, cf, k, i, f, g1, g2, g3, g4, g5, g6, g7⟩ := F
    cases hD.symm.trans g1
    simp only [RoadKit.slotOf, g2, gV, gC, Option.map_some, Option.getD_some] at n1 n2
    exact ⟨E', cf, k, i, f, q1.1, g2, g3, by rw [q2.1]; exact g4, by rw [q2.1]; exact g5, by rw [q2.2.1]; exact g6, by rw [q2.2.2 f.slot (by simp [n1, n2])]; exact g7⟩
end StrChars.Road
namespace StrChars.Road
open Jvm Sem ClassFile Op Lib Jvm.Stand Jvm.Free Jvm.Free.XT
/-- WHAT COMES BACK, the byte[] as a list of values -/
def QA (Z : State) (x : Addr) (zn : Int32) (cs : List Int32) (h : Heap) (v : Option Value) (h' : Heap) (L : List Loc) : Prop := v = none ∧ (∀ y ∈ L, y.base = x) ∧ RoadKit.Keep h h' [x] ∧ h'.size = h.size + 1 ∧ RoadKit.Exa Z h' x ST ∧ RoadKit.Fld Z h' x ST "value" "[B" (.ref h.size) ∧ RoadKit.Fld Z h' x ST "coder" "B" (.int 0) ∧
  (∃ kb, Z.vm.findClass "[B" = some kb ∧ RoadKit.Arv Z h' h.size kb .byte zn (cs.map fun c => .int (lo8 c)) (.int 0)) ∧
  ∀ (O n d : String) (w : Value), RoadKit.Fld Z h x O n d w → RoadKit.slotOf Z O n d ≠ RoadKit.slotOf Z ST "value" "[B" → RoadKit.slotOf Z O n d ≠ RoadKit.slotOf Z ST "coder" "B" → RoadKit.Fld Z h' x O n d w
/-- **new String(chars) AT A CALL, THE ARRAYS AS LISTS**: the char[] at b holds cs, not empty, no char above 255 -/
theorem backArv {p : Program} {l : Launch} {e : Env} {R : Room} {s : State} {args : Array Value} {below : List Frame} {len W : Nat} {Z : State} {a0 : Array Value} {h : Heap} (hZ : Z.Warmed39 s.vm) (hw : ∀ d ∈ words, d.before a0 Z = true) {kI : Nat} (wi : (Jvm.Cond.instantiable ST kI).before a0 Z = true)
    {x b : Addr} {k : ClassId} {zn z : Int32} {cs : List Int32} {dv v0 c0 : Value} (E : RoadKit.Exa Z h x ST) (V : RoadKit.Fld Z h x ST "value" "[B" v0) (C : RoadKit.Fld Z h x ST "coder" "B" c0) (K : RoadKit.Arv Z h b k .char zn (cs.map Value.int) dv) (S : RoadKit.Sta Z h ST "COMPACT_STRINGS" "Z" (.int z)) (hz : ¬ z = 0)
    (hlen : zn.toNatClampNeg = cs.length) (h0 : 0 < cs.length) (hbig : cs.length ≤ 536870912) (hall : ∀ c ∈ cs, ¬ 255 < c) (hfr : 4 ≤ R.frames) (hlo : W + 65 ≤ R.locals) :
    Back l R p e below s args New1.yN len W (fun P a => a = #[.ref x, .ref b] ∧ P.U.heap = h ∧ P.cells + 1 ≤ R.cells ∧ P.slots + cs.length ≤ R.slots)
      (fun P _ v B => ∃ L, QA Z x zn cs h v B.U.heap L ∧ B.locs = P.locs ++ L ∧ B.cells = P.cells + 1 ∧ B.slots = P.slots + cs.length) := by
  obtain ⟨A, K1, K2, K3, K4, K5, K6⟩ := K
  have e : A.slots.size = cs.length := K3.trans hlen
  have hat : ∀ (i : Nat) (hi : i < cs.length), A.slots[i]? = some (.int cs[i]) := fun i hi => by rw [K5 i (by omega)]; simp [List.getD_eq_getElem?_getD, hi]
  have hcv : ∀ (i : Nat) (hi : i < cs.length), cv A i = cs[i] := fun i hi => by unfold cv; rw [hat i hi]
  have hty : Typed .char A := fun i v hv => by
    have hi : i < A.slots.size := (Array.getElem?_eq_some_iff.mp hv).1
    have q := K5 i hi
    rw [hv] at q
    rw [Option.some.inj q]
    exact K6 i hi
  refine Back.mono (back hZ hw wi E V C K1 hty S hz (by omega) (by omega) (fun i hi => by rw [hcv i (by omega)]; exact hall _ (List.getElem_mem _)) hfr hlo) (fun P a hp => ⟨hp.1, hp.2.1, hp.2.2.1, by rw [e]; exact hp.2.2.2⟩) (fun P a v B hp hq => ?_)
  obtain ⟨L, ⟨q1, q2, q3, q4, q5, q6, q7, ⟨V', v1, v2, v3, v4, v5⟩, q9⟩, hl, hc, hs⟩ := hq
  refine ⟨L, ⟨q1, q2, q3, q4, q5, q6, q7, ⟨V'.cls, v3, V', v1, rfl, by rw [v4, e, hlen], K4, fun i hi => ?_, fun i hi => ?_⟩, q9⟩, hl, hc, by rw [hs, e]⟩
  · have hi' : i < cs.length := by omega
    rw [v5 i (by omega), hcv i hi']; simp [List.getD_eq_getElem?_getD, hi']
  · have hi' : i < cs.length := by omega
    simp only [List.getD_eq_getElem?_getD, List.getElem?_map, List.getElem?_eq_getElem hi', Option.map_some, Option.getD_some]
    exact fits_lo8 _
end StrChars.Road
namespace StrChars.Road
open Jvm Sem ClassFile Op Lib Jvm.Stand Jvm.Free Jvm.Free.XT
/-- WHAT COMES BACK, in the writer's own shape -/
def QV (Z : State) (x : Addr) (N : Int32) (bs : List Int32) (h : Heap) (n0 : Nat) (v : Option Value) (h' : Heap) (L : List Loc) : Prop := v = none ∧ RoadKit.Fr n0 L ∧ RoadKit.Keep h h' [x] ∧ RoadKit.Exa Z h' x ST ∧ RoadKit.Fld Z h' x ST "coder" "B" (.int 0) ∧
  ∃ (t : Addr) (kb : ClassId), n0 ≤ t ∧ h.size ≤ t ∧ ¬ t = x ∧ RoadKit.Fld Z h' x ST "value" "[B" (.ref t) ∧ RoadKit.Arv Z h' t kb .byte N (bs.map Value.int) (.int 0)
/-- **new String(chars) AT A CALL, FOR THE WRITER**: a char[] of n known ints, each 0 to 255 -/
theorem backV {p : Program} {l : Launch} {e : Env} {R : Room} {s : State} {args : Array Value} {below : List Frame} {len W : Nat} {Z : State} {a0 : Array Value} {h : Heap} (hZ : Z.Warmed39 s.vm) (hw : ∀ d ∈ words, d.before a0 Z = true) {kI : Nat} (wi : (Jvm.Cond.instantiable ST kI).before a0 Z = true)
    {x b : Addr} {kC : ClassId} {cs bs : List Int32} {d v0 c0 : Value} {z N : Int32} {n n0 : Nat} (hx0 : n0 ≤ x) (hh0 : n0 ≤ h.size) (E : RoadKit.Exa Z h x ST) (V : RoadKit.Fld Z h x ST "value" "[B" v0) (C : RoadKit.Fld Z h x ST "coder" "B" c0) (K : RoadKit.Arv Z h b kC .char N (cs.map Value.int) d) (S : RoadKit.Sta Z h ST "COMPACT_STRINGS" "Z" (.int z)) (hz : ¬ z = 0)
    (hn : cs.length = n) (hN : N = Int32.ofNat n) (l0 : 0 < n) (l2 : n ≤ 4000) (hp : ∀ c ∈ cs, ¬ c < 0 ∧ ¬ (255 : Int32) < c) (hb : bs = cs.map (fun c => c.toInt8.toInt32)) (hfr : 4 ≤ R.frames) (hlo : W + 65 ≤ R.locals) :
    Back l R p e below s args (⟨"java/lang/String", "<init>", "([C)V"⟩ : MethodName) len W (fun P a => a = #[.ref x, .ref b] ∧ P.U.heap = h ∧ P.cells + 1 ≤ R.cells ∧ P.slots + n ≤ R.slots)
      (fun P _ v B => ∃ L, QV Z x N bs h n0 v B.U.heap L ∧ B.locs = P.locs ++ L ∧ B.cells = P.cells + 1 ∧ B.slots = P.slots + n) := by
  subst hn hN hb
  refine Back.mono (backArv hZ hw wi E V C K S hz (n32 (by omega)) l0 (by omega) (fun c hc => (hp c hc).2) hfr hlo) (fun P a hp => hp) (fun P a v B hp hq => ?_)
  obtain ⟨L, ⟨q1, q2, q3, q4, q5, q6, q7, ⟨kb, v1, v2⟩, q9⟩, hl, hc, hs⟩ := hq
  exact ⟨L, ⟨q1, fun y hy => by rw [q2 y hy]; exact hx0, q3, q5, q7, h.size, kb, hh0, Nat.le_refl _, Nat.ne_of_gt E.lt, q6, by rw [List.map_map]; exact v2⟩, hl, hc, hs⟩
end StrChars.Road
end Jvm.Pilot.@@N@@
namespace Jvm.Pilot.@@N@@
open Jvm Jvm.ClassFile Sem Op Lib Jvm.Free Jvm.Stand Jvm.LawKit Jvm.RoadKit Bundle Jvm.Pilot.@@N@@.Jvm.D
section OwnKit
variable {p : Program} {l : Launch} {e : Env} {R : Room} {s : State} {m : MethodId} {args : Array Value} {below : List Frame} {meth : Method} {c : Code} {T : State} {locs : List Loc} {cells slots : Nat}
def own_Goes (p : Program) (e : Env) (below : List Frame) (U : State) (Q : Outcome → State → Prop) : Prop := ∃ (t : State) (o : Outcome), Steps p.tables e below U t ∧ t.status = .running ∧ Ended t below o ∧ Q o t
theorem own_go {U U' : State} {Q : Outcome → State → Prop} (k : ∀ t, Steps p.tables e below U' t → Steps p.tables e below U t) (h : own_Goes p e below U' Q) : own_Goes p e below U Q := by
  obtain ⟨t, o, h1, h2⟩ := h
  exact ⟨t, o, k t h1, h2⟩
theorem own_goS {U U' : State} {Q : Outcome → State → Prop} (k : Steps p.tables e below U U') (h : own_Goes p e below U' Q) : own_Goes p e below U Q := own_go (fun t h => k.trans h) h
theorem own_cast {g g' : JFrame} {Q : Outcome → State → Prop} (q : g = g') (h : own_Goes p e below (T.setTop g') Q) : own_Goes p e below (T.setTop g) Q := q ▸ h
def own_PostN (s : State) (Qc : Option Value → Heap → List Loc → Prop) (k n : Nat) : Outcome → State → Prop := fun o t => ∃ v L, o = .returned v ∧ Qc v t.heap L ∧ FrameEnd s o t L k n
def own_PostW (s : State) (Qc : Option Value → Heap → List Loc → Prop) (k n : Nat) : Outcome → State → Prop := fun o t => ∃ v L, o = .returned v ∧ Qc v t.heap L ∧ ReturnedEndW s o t L k n
theorem own_endN (X : Stand p l e R s m args below meth c T locs cells slots) {v : Option Value} (hv : meth.sig.returnType = none → v = none) (hlocks : meth.locks = false) {Qc : Option Value → Heap → List Loc → Prop} {k n : Nat} (hk : cells ≤ k) (hn : slots ≤ n) (hQ : Qc v T.heap locs) {U : State}
    (st : ∀ fs, (∀ (f : JFrame) (acts : List Action), f.method = m → f.locked = none → f.entered = [] → (doReturn e (T.setTop f) acts v).1 = T.setFrames fs) → Steps p.tables e below U (T.setFrames fs)) : own_Goes p e below U (own_PostN s Qc k n) := by
  obtain ⟨fs, hr, hrun, hended, hW, hsame⟩ := X.leave hv hlocks
  exact ⟨_, _, st fs hr, hrun, hended, _, _, rfl, hQ, ⟨_, rfl⟩, hW, hsame.mono hk hn⟩
theorem own_endW {vm0 : Vm} (X : Stand p l e R (s.setVm vm0) m args below meth c T locs cells slots) {q : Nat} (hS : s.Since vm0 q) (hq : q ≤ T.heap.size) {v : Option Value} (hv : meth.sig.returnType = none → v = none) (hlocks : meth.locks = false) {Qc : Option Value → Heap → List Loc → Prop} {k n : Nat} (hk : cells ≤ k) (hn : slots ≤ n) (hQ : Qc v T.heap locs) {U : State}
    (st : ∀ fs, (∀ (f : JFrame) (acts : List Action), f.method = m → f.locked = none → f.entered = [] → (doReturn e (T.setTop f) acts v).1 = T.setFrames fs) → Steps p.tables e below U (T.setFrames fs)) : own_Goes p e below U (own_PostW s Qc k n) := by
  obtain ⟨fs, hr, hrun, hended, h1, h2, h3, h4⟩ := X.leaveW hS hq hv hlocks
  exact ⟨_, _, st fs hr, hrun, hended, _, _, rfl, hQ, h1, h2, h3, h4.mono hk hn⟩
theorem own_ne {a b : Nat} (h : a < b ∨ b < a) : a ≠ b := by omega
theorem own_NSroot {Z : State} {a0 : Array Value} {O K : String} {n : Nat} (w : (Cond.noSuperclass O).before a0 Z = true) (wk : (Cond.instantiable K n).before a0 Z = true) (hn : O ≠ K) : NS Z O K := by
  obtain ⟨c, k, h1, h2, h3, -, -⟩ := Cond.noSuperclass_spec w
  obtain ⟨t, kt, g1, -⟩ := Cond.instantiable_spec wk
  have ne := ids_ne h1 g1 hn
  refine ⟨c, t, h1, g1, fun fuel => ?_⟩
  cases fuel with
  | zero => rfl
  | succ f => simp [Vm.isSubclassAux, ne, h2, h3]
theorem own_NSno {Z : State} {a0 : Array Value} {C S K : String} {m : Nat} (w : (Cond.superclass C S).before a0 Z = true) (wk : (Cond.instantiable K m).before a0 Z = true) (n : NS Z C K) (hn : C ≠ K) : ∃ c t, Z.vm.findClass C = some c ∧ Z.vm.findClass K = some t ∧ Z.vm.assignable c t = false := by
  obtain ⟨c, t, h0, g0, n3⟩ := n
  obtain ⟨p, k, kp, h1, h2, h3, h4, h5, -, h7⟩ := Cond.superclass_spec h0 w
  obtain ⟨t', k', g1, g2, g5, g7, -⟩ := Cond.instantiable_spec wk
  cases g0.symm.trans g1
  have g8 : k'.isInterface = false := (Bool.or_eq_false_iff.mp g7).1
  have ne := ids_ne h0 g0 hn
  refine ⟨c, t, h0, g0, ?_⟩
  show Z.vm.assignableAux (255 + 1) c t = false
  simp [Vm.assignableAux, ne, h2, g2, h5, g5, g8, Vm.isSubclass, n3]
theorem own_fitsR {v : Value} {t : FieldType} (h : v.isRef = true) (ht : t.isReference = true) : fits t v = true := by
  cases v <;> cases t <;> simp_all [Value.isRef, fits, FieldType.isReference]
theorem own_narR {v : Value} {t : FieldType} (h : v.isRef = true) (ht : t.isReference = true) : narrow t v = v := by
  cases v <;> cases t <;> simp_all [Value.isRef, narrow, FieldType.isReference]
end OwnKit
theorem own_sta {s : State} {args : Array Value} {C n d K : String} (h : (Cond.exactly (Term.static C n d) K).value args s none s [] = some true) (w1 : (Cond.initialized C).before args s = true) (w2 : (Cond.laysStatic C n d).before args s = true) : ∃ w, Sta s s.heap C n d (.ref w) ∧ Exa s s.heap w K := by
  obtain ⟨w, ev⟩ := exa_v h
  exact ⟨w, Sta.start ev (Or.inr ⟨w1, w2⟩), Exa.start ev h⟩
def GG (Z : State) (gz : Int32) : Prop := Sta Z Z.heap "java/lang/String" "COMPACT_STRINGS" "Z" (.int gz) ∧ ¬ gz = (0 : Int32)
theorem own_strs {Z : State} {a0 : Array Value} (hw : ∀ d ∈ tables_1, d.before a0 Z = true) : ∀ a ∈ Bundle.stringAtoms, a.before a0 Z = true := by
  intro a ha
  simp only [Bundle.stringAtoms, List.mem_cons, List.not_mem_nil, or_false] at ha
  rcases ha with rfl | rfl | rfl | rfl | rfl | rfl | rfl
  · exact (hw _ (List.mem_of_getElem? (i := 3) rfl))
  · exact (hw _ (List.mem_of_getElem? (i := 2) rfl))
  · exact (hw _ (List.mem_of_getElem? (i := 19) rfl))
  · exact (hw _ (List.mem_of_getElem? (i := 29) rfl))
  · exact (hw _ (List.mem_of_getElem? (i := 27) rfl))
  · exact (hw _ (List.mem_of_getElem? (i := 38) rfl))
  · exact (hw _ (List.mem_of_getElem? (i := 39) rfl))
theorem own_narM (x : Int32) : nar .char (x &&& (255 : Int32)) = (x &&& (255 : Int32)) := i2c_mask x
theorem own_ch255 (x : Int32) : ¬ (x &&& (255 : Int32)) < 0 ∧ ¬ (255 : Int32) < (x &&& (255 : Int32)) := by
  have q := c_and x 255 (by decide)
  have e0 : (0 : Int32).toInt = 0 := by decide
  have e1 : (255 : Int32).toInt = 255 := by decide
  rw [Int32.lt_iff_toInt_lt, Int32.lt_iff_toInt_lt]
  omega
theorem own_wV {Z : State} {a0 : Array Value} (hw : ∀ d ∈ tables_1, d.before a0 Z = true) : ∀ d ∈ StrChars.Road.words, d.before a0 Z = true := fun d hd => hw d ((by decide +kernel : ∀ d ∈ StrChars.Road.words, d ∈ tables_1) d hd)

theorem own_b01 {z : Int32} (h : z = 0 ∨ z = 1) : narrow .boolean (.int z) = .int z := by rcases h with rfl | rfl <;> rfl
theorem own_b01f {z : Int32} (h : z = 0 ∨ z = 1) : fits .boolean (.int z) = true := by rcases h with rfl | rfl <;> rfl
theorem own_01 {z : Int32} {P Q : Prop} (h : (z = 1 ∧ P) ∨ (z = 0 ∧ Q)) : z = 0 ∨ z = 1 := h.elim (fun q => Or.inr q.1) (fun q => Or.inl q.1)

theorem own_d8_0 : decode jdk_31_method_11_code 0 = .ok (.aload_n 0, 1) := by decide +kernel
theorem own_d8_1 : decode jdk_31_method_11_code 1 = .ok (.ifnonnull 12, 3) := by decide +kernel
theorem own_d8_13 : decode jdk_31_method_11_code 13 = .ok (.aload_n 0, 1) := by decide +kernel
theorem own_d8_14 : decode jdk_31_method_11_code 14 = .ok (.areturn, 1) := by decide +kernel
theorem own_pn_java_util_Objects : plainName "java/util/Objects" = true := by first | (simp [plainName, overriddenIn]; done) | decide +kernel
theorem own_ef_own_rnn2 (m : MethodId) (xa : Addr) (xb : Addr) : entryFrame m #[(.ref xa), (.ref xb)] 2 = mkF m 0 #[.val (.ref xa), .val (.ref xb)] [] := by first | (simp [entryFrame, mkF, argsToLocals, Value.category]; done) | rfl
def Q_own_rnn2 (Z : State) (xa : Addr) (xb : Addr) (h0 : Heap) (n0 : Nat) (v : Option Value) (h : Heap) (L : List Loc) : Prop := Fr n0 L ∧ h = h0 ∧ v = some (.ref xa)
set_option maxRecDepth 65536 in
set_option maxHeartbeats 40000000 in
theorem own_rnn2 (l : Launch) (Z : State) (a0 : Array Value) (hw : ∀ d ∈ tables_1, d.before a0 Z = true) (ws : List Jvm.Cond) (xa : Addr) (xb : Addr) (h0 : Heap) (n0 : Nat) (O0 : Old Z n0 h0) :
    MetFree l (⟨"java/util/Objects", "requireNonNull", "(Ljava/lang/Object;Ljava/lang/String;)Ljava/lang/Object;"⟩ : MethodName) (head1 (Jvm.Cond.code (⟨"java/util/Objects", "requireNonNull", "(Ljava/lang/Object;Ljava/lang/String;)Ljava/lang/Object;"⟩ : MethodName) jdk_31_method_11_code 2 (some (.object "java/lang/Object")) :: ws) ({ frames := 0, cells := 0, slots := 0, locals := 0 } : Room)) (fun as_ U_ => as_ = #[(.ref xa), (.ref xb)] ∧ Z.Warmed39 U_.vm ∧ U_.heap = h0) (fun _ _ _ _ _ => True) (fun _ U_ o_ U2_ => ∃ v_ L_, o_ = .returned v_ ∧ Q_own_rnn2 Z xa xb h0 n0 v_ U2_.heap L_ ∧ FrameEnd U_ o_ U2_ L_ ({ frames := 0, cells := 0, slots := 0, locals := 0 } : Room).cells ({ frames := 0, cells := 0, slots := 0, locals := 0 } : Room).slots) := by
  refine MetFree.of_bodySF (plainFor_of_name own_pn_java_util_Objects) hisR ?_
  intro p e s m args below meth c s₁ Bd hml0 hP hK
  obtain ⟨rfl, hZ, hh⟩ := hP
  have hx := Bd.exec
  have hby := Bd.bytes
  have hml : c.maxLocals = 2 := hml0
  have hown : s.vm.findClass "java/util/Objects" = some m.cls := findClass_of_methodNamed Bd.named
  have hnm := (name_of_methodNamed Bd.named Bd.method).1
  have hlk : meth.locks = false := Bd.notSynchronized
  have hret := Bd.returns
  have X0 : Stand p l e ({ frames := 0, cells := 0, slots := 0, locals := 0 } : Room) s m #[(.ref xa), (.ref xb)] below meth c s₁ [] 0 0 := Stand.of_body Bd
  have e0 : s₁.heap = h0 := by rw [← hh, Bd.state]; rfl
  have N0 := Fr.nil n0
  have z0 : Z.heap.size = n0 := O0.1
  have z1 : n0 ≤ h0.size := z0 ▸ O0.2.1
  show own_Goes p e below (s₁.setTop (entryFrame m #[(.ref xa), (.ref xb)] 2)) (own_PostN s (Q_own_rnn2 Z xa xb h0 n0) ({ frames := 0, cells := 0, slots := 0, locals := 0 } : Room).cells ({ frames := 0, cells := 0, slots := 0, locals := 0 } : Room).slots)
  refine own_cast (own_ef_own_rnn2 m xa xb) ?_
  show own_Goes p e below (s₁.setTop (mkF m 0 #[.val (.ref xa), .val (.ref xb)] [])) _
  refine own_go (fun t_ k_ => XS.aloadN X0.here hx rfl (hb hby own_d8_0) rfl rfl k_) ?_
  show own_Goes p e below (s₁.setTop (mkF m 1 #[.val (.ref xa), .val (.ref xb)] [(.ref xa)])) _
  refine own_go (fun t_ k_ => XS.ifnonnullYes X0.here hx rfl (pc0 := 1) (pc' := 13) rfl (hb hby own_d8_1) rfl (by decide) (by decide) k_) ?_
  show own_Goes p e below (s₁.setTop (mkF m 13 #[.val (.ref xa), .val (.ref xb)] [])) _
  refine own_go (fun t_ k_ => XS.aloadN X0.here hx rfl (hb hby own_d8_13) rfl rfl k_) ?_
  show own_Goes p e below (s₁.setTop (mkF m 14 #[.val (.ref xa), .val (.ref xb)] [(.ref xa)])) _
  refine own_endN X0 (v := (some (.ref xa))) (fun h => by rw [hret] at h; cases h) hlk (by decide) (by decide) ?_ (fun fs hr => retOut X0 hx hret rfl (Or.inr (Or.inr (Or.inr (Or.inr ⟨rfl, rfl, rfl⟩)))) (hb hby own_d8_14) hr)
  show Q_own_rnn2 Z xa xb h0 n0 _ s₁.heap _
  rw [e0]
  exact ⟨N0, rfl, rfl⟩
theorem own_d10_0 : decode prog_42_method_1_code 0 = .ok (.aload_n 0, 1) := by decide +kernel
theorem own_d10_1 : decode prog_42_method_1_code 1 = .ok (.invokespecial 1, 3) := by decide +kernel
theorem own_d10_4 : decode prog_42_method_1_code 4 = .ok (.return_, 1) := by decide +kernel
theorem own_pn_com_example_breach_or_proof_breachorproof_Term : plainName "com/example/breach_or_proof/breachorproof/Term" = true := by first | (simp [plainName, overriddenIn]; done) | decide +kernel
theorem own_ef_own_tmInit (m : MethodId) (xa : Addr) : entryFrame m #[(.ref xa)] 1 = mkF m 0 #[.val (.ref xa)] [] := by first | (simp [entryFrame, mkF, argsToLocals, Value.category]; done) | rfl
def Q_own_tmInit (Z : State) (xa : Addr) (h0 : Heap) (n0 : Nat) (v : Option Value) (h : Heap) (L : List Loc) : Prop := Fr n0 L ∧ h = h0 ∧ v = none
set_option maxRecDepth 65536 in
set_option maxHeartbeats 40000000 in
theorem own_tmInit (l : Launch) (Z : State) (a0 : Array Value) (hw : ∀ d ∈ tables_1, d.before a0 Z = true) (ws : List Jvm.Cond) (xa : Addr) (h0 : Heap) (n0 : Nat) (O0 : Old Z n0 h0) :
    MetFree l (⟨"com/example/breach_or_proof/breachorproof/Term", "<init>", "()V"⟩ : MethodName) (head1 (Jvm.Cond.code (⟨"com/example/breach_or_proof/breachorproof/Term", "<init>", "()V"⟩ : MethodName) prog_42_method_1_code 1 none :: ws) ({ frames := 1, cells := 0, slots := 0, locals := 12 } : Room)) (fun as_ U_ => as_ = #[(.ref xa)] ∧ Z.Warmed39 U_.vm ∧ U_.heap = h0) (fun _ _ _ _ _ => True) (fun _ U_ o_ U2_ => ∃ v_ L_, o_ = .returned v_ ∧ Q_own_tmInit Z xa h0 n0 v_ U2_.heap L_ ∧ FrameEnd U_ o_ U2_ L_ ({ frames := 1, cells := 0, slots := 0, locals := 12 } : Room).cells ({ frames := 1, cells := 0, slots := 0, locals := 12 } : Room).slots) := by
  refine MetFree.of_bodySF (plainFor_of_name own_pn_com_example_breach_or_proof_breachorproof_Term) hisR ?_
  intro p e s m args below meth c s₁ Bd hml0 hP hK
  obtain ⟨rfl, hZ, hh⟩ := hP
  have hx := Bd.exec
  have hby := Bd.bytes
  have hml : c.maxLocals = 1 := hml0
  have hown : s.vm.findClass "com/example/breach_or_proof/breachorproof/Term" = some m.cls := findClass_of_methodNamed Bd.named
  have hnm := (name_of_methodNamed Bd.named Bd.method).1
  have hlk : meth.locks = false := Bd.notSynchronized
  have hret := Bd.returns
  have X0 : Stand p l e ({ frames := 1, cells := 0, slots := 0, locals := 12 } : Room) s m #[(.ref xa)] below meth c s₁ [] 0 0 := Stand.of_body Bd
  have e0 : s₁.heap = h0 := by rw [← hh, Bd.state]; rfl
  have N0 := Fr.nil n0
  have z0 : Z.heap.size = n0 := O0.1
  have z1 : n0 ≤ h0.size := z0 ▸ O0.2.1
  show own_Goes p e below (s₁.setTop (entryFrame m #[(.ref xa)] 1)) (own_PostN s (Q_own_tmInit Z xa h0 n0) ({ frames := 1, cells := 0, slots := 0, locals := 12 } : Room).cells ({ frames := 1, cells := 0, slots := 0, locals := 12 } : Room).slots)
  refine own_cast (own_ef_own_tmInit m xa) ?_
  show own_Goes p e below (s₁.setTop (mkF m 0 #[.val (.ref xa)] [])) _
  refine own_go (fun t_ k_ => XS.aloadN X0.here hx rfl (hb hby own_d10_0) rfl rfl k_) ?_
  show own_Goes p e below (s₁.setTop (mkF m 1 #[.val (.ref xa)] [(.ref xa)])) _
  obtain ⟨T1, X1, e1, st1⟩ := initO X0 hx hZ hown (hw _ (List.mem_of_getElem? (i := 60) rfl)) (hw _ (List.mem_of_getElem? (i := 12) rfl)) (hw _ (List.mem_of_getElem? (i := 13) rfl)) e0 (g := (mkF m 1 #[.val (.ref xa)] [(.ref xa)])) rfl (by rw [hml]; rfl) rfl (hb hby own_d10_1) (by decide) (W := 0) (by show 2 * 0 + _ ≤ _; exact Nat.le_of_eq rfl) (by decide)
  refine own_go st1 ?_
  show own_Goes p e below (T1.setTop (mkF m 4 #[.val (.ref xa)] [])) _
  refine own_endN X1 (v := none) (fun _ => rfl) hlk (by decide) (by decide) ?_ (fun fs hr => X1.returnOut hx hret (hb hby own_d10_4) hr)
  show Q_own_tmInit Z xa h0 n0 _ T1.heap _
  rw [e1]
  exact ⟨N0, rfl, rfl⟩
theorem own_d7_0 : decode prog_22_method_1_code 0 = .ok (.aload_n 0, 1) := by decide +kernel
theorem own_d7_1 : decode prog_22_method_1_code 1 = .ok (.invokespecial 1, 3) := by decide +kernel
theorem own_d7_4 : decode prog_22_method_1_code 4 = .ok (.aload_n 0, 1) := by decide +kernel
theorem own_d7_5 : decode prog_22_method_1_code 5 = .ok (.aload_n 1, 1) := by decide +kernel
theorem own_d7_6 : decode prog_22_method_1_code 6 = .ok (.ldc 7, 2) := by decide +kernel
theorem own_d7_8 : decode prog_22_method_1_code 8 = .ok (.invokestatic 9, 3) := by decide +kernel
theorem own_pd_0 : parseMethodDescriptor "(Ljava/lang/Object;Ljava/lang/String;)Ljava/lang/Object;" = some ⟨[(.object "java/lang/Object"), (.object "java/lang/String")], some (.object "java/lang/Object")⟩ := by decide +kernel
abbrev own_m1 : MethodName := ⟨"java/util/Objects", "requireNonNull", "(Ljava/lang/Object;Ljava/lang/String;)Ljava/lang/Object;"⟩
theorem own_d7_11 : decode prog_22_method_1_code 11 = .ok (.checkcast 15, 3) := by decide +kernel
theorem own_d7_14 : decode prog_22_method_1_code 14 = .ok (.putfield 17, 3) := by decide +kernel
theorem own_d7_17 : decode prog_22_method_1_code 17 = .ok (.aload_n 0, 1) := by decide +kernel
theorem own_d7_18 : decode prog_22_method_1_code 18 = .ok (.iload_n 2, 1) := by decide +kernel
theorem own_d7_19 : decode prog_22_method_1_code 19 = .ok (.putfield 22, 3) := by decide +kernel
theorem own_d7_22 : decode prog_22_method_1_code 22 = .ok (.return_, 1) := by decide +kernel
theorem own_pn_com_example_breach_or_proof_breachorproof_NameSymbol : plainName "com/example/breach_or_proof/breachorproof/NameSymbol" = true := by first | (simp [plainName, overriddenIn]; done) | decide +kernel
theorem own_ef_own_nsInit (m : MethodId) (xa : Addr) (xs : Addr) (xb : Int32) : entryFrame m #[(.ref xa), (.ref xs), (.int xb)] 3 = mkF m 0 #[.val (.ref xa), .val (.ref xs), .val (.int xb)] [] := by first | (simp [entryFrame, mkF, argsToLocals, Value.category]; done) | rfl
def Q_own_nsInit (Z : State) (xa : Addr) (xs : Addr) (xb : Int32) (h0 : Heap) (n0 : Nat) (v : Option Value) (h : Heap) (L : List Loc) : Prop := Fr n0 L ∧ Keep h0 h [xa] ∧ v = none
set_option maxRecDepth 65536 in
set_option maxHeartbeats 40000000 in
theorem own_nsInit (l : Launch) (Z : State) (a0 : Array Value) (hw : ∀ d ∈ tables_1, d.before a0 Z = true) (ws : List Jvm.Cond) (xa : Addr) (xs : Addr) (xb : Int32) (h0 : Heap) (n0 : Nat) (O0 : Old Z n0 h0) (P0 : Exa Z h0 xa "com/example/breach_or_proof/breachorproof/NameSymbol") (P1 : Fld Z h0 xa "com/example/breach_or_proof/breachorproof/NameSymbol" "name" "Ljava/lang/String;" .null) (P2 : Fld Z h0 xa "com/example/breach_or_proof/breachorproof/NameSymbol" "isPrivate" "Z" (.int (0 : Int32))) (P3 : Exa Z h0 xs "java/lang/String") (P4 : n0 ≤ xa) (P5 : xb = 0 ∨ xb = 1) :
    MetFree l (⟨"com/example/breach_or_proof/breachorproof/NameSymbol", "<init>", "(Ljava/lang/String;Z)V"⟩ : MethodName) (head1 (Jvm.Cond.code (⟨"com/example/breach_or_proof/breachorproof/NameSymbol", "<init>", "(Ljava/lang/String;Z)V"⟩ : MethodName) prog_22_method_1_code 3 none :: ws) ({ frames := 1, cells := 2, slots := 20, locals := 14 } : Room)) (fun as_ U_ => as_ = #[(.ref xa), (.ref xs), (.int xb)] ∧ Z.Warmed39 U_.vm ∧ U_.heap = h0) (fun _ _ _ _ _ => True) (fun _ U_ o_ U2_ => ∃ v_ L_, o_ = .returned v_ ∧ Q_own_nsInit Z xa xs xb h0 n0 v_ U2_.heap L_ ∧ ReturnedEndW U_ o_ U2_ L_ ({ frames := 1, cells := 2, slots := 20, locals := 14 } : Room).cells ({ frames := 1, cells := 2, slots := 20, locals := 14 } : Room).slots) := by
  refine MetFree.of_bodySF (plainFor_of_name own_pn_com_example_breach_or_proof_breachorproof_NameSymbol) hisR ?_
  intro p e s m args below meth c s₁ Bd hml0 hP hK
  obtain ⟨rfl, hZ, hh⟩ := hP
  have hx := Bd.exec
  have hby := Bd.bytes
  have hml : c.maxLocals = 3 := hml0
  have hown : s.vm.findClass "com/example/breach_or_proof/breachorproof/NameSymbol" = some m.cls := findClass_of_methodNamed Bd.named
  have hnm := (name_of_methodNamed Bd.named Bd.method).1
  have hlk : meth.locks = false := Bd.notSynchronized
  have hret := Bd.returns
  have X0 : Stand p l e ({ frames := 1, cells := 2, slots := 20, locals := 14 } : Room) s m #[(.ref xa), (.ref xs), (.int xb)] below meth c s₁ [] 0 0 := Stand.of_body Bd
  have e0 : s₁.heap = h0 := by rw [← hh, Bd.state]; rfl
  have N0 := Fr.nil n0
  have z0 : Z.heap.size = n0 := O0.1
  have z1 : n0 ≤ h0.size := z0 ▸ O0.2.1
  have K0 : Keep h0 h0 [xa] := Keep.refl _ _
  have hS0 : s.Since s.vm 0 := (State.WarmedH.refl s).since 0
  have hk0 : 0 ≤ h0.size := Nat.zero_le _
  replace X0 : Stand p l e ({ frames := 1, cells := 2, slots := 20, locals := 14 } : Room) (s.setVm s.vm) m #[(.ref xa), (.ref xs), (.int xb)] below meth c s₁ [] 0 0 := X0
  show own_Goes p e below (s₁.setTop (entryFrame m #[(.ref xa), (.ref xs), (.int xb)] 3)) (own_PostW s (Q_own_nsInit Z xa xs xb h0 n0) ({ frames := 1, cells := 2, slots := 20, locals := 14 } : Room).cells ({ frames := 1, cells := 2, slots := 20, locals := 14 } : Room).slots)
  refine own_cast (own_ef_own_nsInit m xa xs xb) ?_
  show own_Goes p e below (s₁.setTop (mkF m 0 #[.val (.ref xa), .val (.ref xs), .val (.int xb)] [])) _
  have ltP0 : xa < h0.size := P0.lt
  have ltP3 : xs < h0.size := P3.lt
  refine own_go (fun t_ k_ => XS.aloadN X0.here hx rfl (hb hby own_d7_0) rfl rfl k_) ?_
  show own_Goes p e below (s₁.setTop (mkF m 1 #[.val (.ref xa), .val (.ref xs), .val (.int xb)] [(.ref xa)])) _
  obtain ⟨T1, X1, e1, st1⟩ := initO X0 hx hZ hown (hw _ (List.mem_of_getElem? (i := 36) rfl)) (hw _ (List.mem_of_getElem? (i := 12) rfl)) (hw _ (List.mem_of_getElem? (i := 13) rfl)) e0 (g := (mkF m 1 #[.val (.ref xa), .val (.ref xs), .val (.int xb)] [(.ref xa)])) rfl (by rw [hml]; rfl) rfl (hb hby own_d7_1) (by decide) (W := 0) (by show 2 * 0 + _ ≤ _; exact Nat.le_of_eq rfl) (by decide)
  refine own_go st1 ?_
  show own_Goes p e below (T1.setTop (mkF m 4 #[.val (.ref xa), .val (.ref xs), .val (.int xb)] [])) _
  refine own_go (fun t_ k_ => XS.aloadN X1.here hx rfl (hb hby own_d7_4) rfl rfl k_) ?_
  show own_Goes p e below (T1.setTop (mkF m 5 #[.val (.ref xa), .val (.ref xs), .val (.int xb)] [(.ref xa)])) _
  refine own_go (fun t_ k_ => XS.aloadN X1.here hx rfl (hb hby own_d7_5) rfl rfl k_) ?_
  show own_Goes p e below (T1.setTop (mkF m 6 #[.val (.ref xa), .val (.ref xs), .val (.int xb)] [(.ref xs), (.ref xa)])) _
  obtain ⟨a2, T2, h2, k2, X2, e2, E2, hS2, hk2, hZ2, hown2, st2⟩ := ldcS (s := s) (vm0 := s.vm) X1 hx hZ hown (hw _ (List.mem_of_getElem? (i := 37) rfl)) (own_strs hw) e1 hS0 hk0 (g := (mkF m 6 #[.val (.ref xa), .val (.ref xs), .val (.int xb)] [(.ref xs), (.ref xa)])) rfl (hb hby own_d7_6) (n := 16) (by decide) (by decide) (by decide) (by decide)
  refine own_go st2 ?_
  have O3 := O0.ext E2
  have sz4 : h0.size ≤ h2.size := E2.1
  have K5 := K0.ext E2
  show own_Goes p e below (T2.setTop (mkF m 8 #[.val (.ref xa), .val (.ref xs), .val (.int xb)] [(.ref a2), (.ref xs), (.ref xa)])) _
  obtain ⟨_, _, ⟨T6, L6, k6, n6⟩, -, X6, ⟨Lc6, hQ6, l6, y6, z6⟩, st6⟩ := Jvm.LawKit.callS X2 hx (y := own_m1) hown2 (mvT hZ2 (hw _ (List.mem_of_getElem? (i := 40) rfl))) (mvT hZ2 (hw _ (List.mem_of_getElem? (i := 41) rfl))) (mvT hZ2 (hw _ (List.mem_of_getElem? (i := 42) rfl))) (mvT hZ2 (hw _ (List.mem_of_getElem? (i := 43) rfl))) (by decide) (backOf (W := 1) (own_rnn2 l Z a0 hw [] xs a2 h2 n0 O3) hZ2 (hw _ (List.mem_of_getElem? (i := 43) rfl)) (hw _ (List.mem_of_getElem? (i := 42) rfl)) (by decide) (by decide)) (g := (mkF m 8 #[.val (.ref xa), .val (.ref xs), .val (.int xb)] [(.ref a2), (.ref xs), (.ref xa)])) rfl (by rw [hml]; rfl) (argsL := [(.ref xs), (.ref a2)]) (rest := [(.ref xa)]) (lenOf own_pd_0 rfl) rfl (by show 2 * 0 + _ ≤ _; exact Nat.le_of_eq rfl) (hb hby own_d7_8) (fun _ _ => ⟨rfl, e2, (by decide : 2 + 0 ≤ _), (by decide : 20 + 0 ≤ _)⟩)
  dsimp only [Pt.U, Pt.locs, Pt.cells, Pt.slots] at X6 l6 y6 z6 st6 hQ6
  subst l6 y6 z6
  obtain ⟨Nc6, e6, rfl⟩ := hQ6
  have N6 := Fr.app N0 Nc6
  refine own_go st6 ?_
  show own_Goes p e below (T6.setTop (mkF m 11 #[.val (.ref xa), .val (.ref xs), .val (.int xb)] [(.ref xs), (.ref xa)])) _
  have f7 := (P3.ext E2)
  obtain ⟨T8, X8, e8, st8⟩ := castY X6 hx hZ2 hown2 (hw _ (List.mem_of_getElem? (i := 44) rfl)) e6 (Ins.self f7) (g := (mkF m 11 #[.val (.ref xa), .val (.ref xs), .val (.int xb)] [(.ref xs), (.ref xa)])) rfl rfl (hb hby own_d7_11)
  refine own_go st8 ?_
  show own_Goes p e below (T8.setTop (mkF m 14 #[.val (.ref xa), .val (.ref xs), .val (.int xb)] [(.ref xs), (.ref xa)])) _
  have f9 := (P1.ext E2)
  have f10 := (P0.ext E2)
  obtain ⟨T11, h11, X11, e11, W11, st11⟩ := putF X8 hx hZ2 hown2 (host := "") (Or.inl (hw _ (List.mem_of_getElem? (i := 45) rfl))) Via.refl e8 f9 f10 (Or.inr ⟨(hw _ (List.mem_of_getElem? (i := 46) rfl)), rfl, hnm⟩) (hw _ (List.mem_of_getElem? (i := 31) rfl)) (ty := (.object "java/lang/String")) (by decide) rfl rfl (g := (mkF m 14 #[.val (.ref xa), .val (.ref xs), .val (.int xb)] [(.ref xs), (.ref xa)])) rfl rfl (hb hby own_d7_14)
  refine own_go st11 ?_
  have O12 := O3.wr W11 (show n0 ≤ xa by omega)
  have sz13 : h11.size = h2.size := Wr.size W11
  have hk14 := Nat.le_trans hk2 (Nat.le_of_eq (Wr.size W11).symm)
  have K15 := K5.wr W11 (Or.inl (List.mem_of_getElem? (i := 0) rfl))
  have N11 := Fr.snoc X11 N6 (show n0 ≤ xa by omega)
  have Fw11 := f9.same W11
  show own_Goes p e below (T11.setTop (mkF m 17 #[.val (.ref xa), .val (.ref xs), .val (.int xb)] [])) _
  refine own_go (fun t_ k_ => XS.aloadN X11.here hx rfl (hb hby own_d7_17) rfl rfl k_) ?_
  show own_Goes p e below (T11.setTop (mkF m 18 #[.val (.ref xa), .val (.ref xs), .val (.int xb)] [(.ref xa)])) _
  refine own_go (fun t_ k_ => XS.iloadN X11.here hx rfl (hb hby own_d7_18) rfl k_) ?_
  show own_Goes p e below (T11.setTop (mkF m 19 #[.val (.ref xa), .val (.ref xs), .val (.int xb)] [(.int xb), (.ref xa)])) _
  have f16 := ((P2.ext E2).other W11 (Or.inr (slot_ne (Or.inr (hw _ (List.mem_of_getElem? (i := 48) rfl))) (Or.inr (hw _ (List.mem_of_getElem? (i := 46) rfl))) (by decide) (t := .boolean) (t' := (.object "java/lang/String")) (by decide) (by decide))))
  have f17 := (f10.wr W11)
  obtain ⟨T18, h18, X18, e18, W18, st18⟩ := putFN X11 hx hZ2 hown2 (hw _ (List.mem_of_getElem? (i := 47) rfl)) Via.refl e11 f16 f17 (Or.inr ⟨(hw _ (List.mem_of_getElem? (i := 48) rfl)), rfl, hnm⟩) (hw _ (List.mem_of_getElem? (i := 31) rfl)) (ty := .boolean) (v' := (.int xb)) (by decide) (own_b01 P5) (own_b01f P5) (g := (mkF m 19 #[.val (.ref xa), .val (.ref xs), .val (.int xb)] [(.int xb), (.ref xa)])) rfl rfl (hb hby own_d7_19)
  refine own_go st18 ?_
  have O19 := O12.wr W18 (show n0 ≤ xa by omega)
  have sz20 : h18.size = h11.size := Wr.size W18
  have hk21 := Nat.le_trans hk14 (Nat.le_of_eq (Wr.size W18).symm)
  have K22 := K15.wr W18 (Or.inl (List.mem_of_getElem? (i := 0) rfl))
  have N18 := Fr.snoc X18 N11 (show n0 ≤ xa by omega)
  have Fw18 := f16.same W18
  show own_Goes p e below (T18.setTop (mkF m 22 #[.val (.ref xa), .val (.ref xs), .val (.int xb)] [])) _
  refine own_endW X18 hS2 (show _ ≤ T18.heap.size by rw [e18]; exact hk21) (v := none) (fun _ => rfl) hlk (by decide) (by decide) ?_ (fun fs hr => X18.returnOut hx hret (hb hby own_d7_22) hr)
  show Q_own_nsInit Z xa xs xb h0 n0 _ T18.heap _
  rw [e18]
  exact ⟨N18, K22, rfl⟩
theorem own_d9_0 : decode prog_20_method_1_code 0 = .ok (.aload_n 0, 1) := by decide +kernel
theorem own_d9_1 : decode prog_20_method_1_code 1 = .ok (.invokespecial 1, 3) := by decide +kernel
theorem own_pd_2 : parseMethodDescriptor "()V" = some ⟨[], none⟩ := by decide +kernel
abbrev own_m3 : MethodName := ⟨"com/example/breach_or_proof/breachorproof/Term", "<init>", "()V"⟩
theorem own_d9_4 : decode prog_20_method_1_code 4 = .ok (.aload_n 0, 1) := by decide +kernel
theorem own_d9_5 : decode prog_20_method_1_code 5 = .ok (.aload_n 1, 1) := by decide +kernel
theorem own_d9_6 : decode prog_20_method_1_code 6 = .ok (.ldc 7, 2) := by decide +kernel
theorem own_d9_8 : decode prog_20_method_1_code 8 = .ok (.invokestatic 9, 3) := by decide +kernel
theorem own_d9_11 : decode prog_20_method_1_code 11 = .ok (.checkcast 15, 3) := by decide +kernel
theorem own_d9_14 : decode prog_20_method_1_code 14 = .ok (.putfield 17, 3) := by decide +kernel
theorem own_d9_17 : decode prog_20_method_1_code 17 = .ok (.return_, 1) := by decide +kernel
theorem own_pn_com_example_breach_or_proof_breachorproof_Name : plainName "com/example/breach_or_proof/breachorproof/Name" = true := by first | (simp [plainName, overriddenIn]; done) | decide +kernel
theorem own_ef_own_nmInit (m : MethodId) (xa : Addr) (xs : Addr) : entryFrame m #[(.ref xa), (.ref xs)] 2 = mkF m 0 #[.val (.ref xa), .val (.ref xs)] [] := by first | (simp [entryFrame, mkF, argsToLocals, Value.category]; done) | rfl
def Q_own_nmInit (Z : State) (xa : Addr) (xs : Addr) (h0 : Heap) (n0 : Nat) (v : Option Value) (h : Heap) (L : List Loc) : Prop := Fr n0 L ∧ Keep h0 h [xa] ∧ v = none ∧ Fld Z h xa "com/example/breach_or_proof/breachorproof/Name" "symbol" "Lcom/example/breach_or_proof/breachorproof/NameSymbol;" (.ref xs)
set_option maxRecDepth 65536 in
set_option maxHeartbeats 40000000 in
theorem own_nmInit (l : Launch) (Z : State) (a0 : Array Value) (hw : ∀ d ∈ tables_1, d.before a0 Z = true) (ws : List Jvm.Cond) (xa : Addr) (xs : Addr) (h0 : Heap) (n0 : Nat) (O0 : Old Z n0 h0) (P0 : Exa Z h0 xa "com/example/breach_or_proof/breachorproof/Name") (P1 : Fld Z h0 xa "com/example/breach_or_proof/breachorproof/Name" "symbol" "Lcom/example/breach_or_proof/breachorproof/NameSymbol;" .null) (P2 : Exa Z h0 xs "com/example/breach_or_proof/breachorproof/NameSymbol") (P3 : n0 ≤ xa) :
    MetFree l (⟨"com/example/breach_or_proof/breachorproof/Name", "<init>", "(Lcom/example/breach_or_proof/breachorproof/NameSymbol;)V"⟩ : MethodName) (head1 (Jvm.Cond.code (⟨"com/example/breach_or_proof/breachorproof/Name", "<init>", "(Lcom/example/breach_or_proof/breachorproof/NameSymbol;)V"⟩ : MethodName) prog_20_method_1_code 2 none :: ws) ({ frames := 2, cells := 2, slots := 28, locals := 24 } : Room)) (fun as_ U_ => as_ = #[(.ref xa), (.ref xs)] ∧ Z.Warmed39 U_.vm ∧ U_.heap = h0) (fun _ _ _ _ _ => True) (fun _ U_ o_ U2_ => ∃ v_ L_, o_ = .returned v_ ∧ Q_own_nmInit Z xa xs h0 n0 v_ U2_.heap L_ ∧ ReturnedEndW U_ o_ U2_ L_ ({ frames := 2, cells := 2, slots := 28, locals := 24 } : Room).cells ({ frames := 2, cells := 2, slots := 28, locals := 24 } : Room).slots) := by
  refine MetFree.of_bodySF (plainFor_of_name own_pn_com_example_breach_or_proof_breachorproof_Name) hisR ?_
  intro p e s m args below meth c s₁ Bd hml0 hP hK
  obtain ⟨rfl, hZ, hh⟩ := hP
  have hx := Bd.exec
  have hby := Bd.bytes
  have hml : c.maxLocals = 2 := hml0
  have hown : s.vm.findClass "com/example/breach_or_proof/breachorproof/Name" = some m.cls := findClass_of_methodNamed Bd.named
  have hnm := (name_of_methodNamed Bd.named Bd.method).1
  have hlk : meth.locks = false := Bd.notSynchronized
  have hret := Bd.returns
  have X0 : Stand p l e ({ frames := 2, cells := 2, slots := 28, locals := 24 } : Room) s m #[(.ref xa), (.ref xs)] below meth c s₁ [] 0 0 := Stand.of_body Bd
  have e0 : s₁.heap = h0 := by rw [← hh, Bd.state]; rfl
  have N0 := Fr.nil n0
  have z0 : Z.heap.size = n0 := O0.1
  have z1 : n0 ≤ h0.size := z0 ▸ O0.2.1
  have K0 : Keep h0 h0 [xa] := Keep.refl _ _
  have hS0 : s.Since s.vm 0 := (State.WarmedH.refl s).since 0
  have hk0 : 0 ≤ h0.size := Nat.zero_le _
  replace X0 : Stand p l e ({ frames := 2, cells := 2, slots := 28, locals := 24 } : Room) (s.setVm s.vm) m #[(.ref xa), (.ref xs)] below meth c s₁ [] 0 0 := X0
  show own_Goes p e below (s₁.setTop (entryFrame m #[(.ref xa), (.ref xs)] 2)) (own_PostW s (Q_own_nmInit Z xa xs h0 n0) ({ frames := 2, cells := 2, slots := 28, locals := 24 } : Room).cells ({ frames := 2, cells := 2, slots := 28, locals := 24 } : Room).slots)
  refine own_cast (own_ef_own_nmInit m xa xs) ?_
  show own_Goes p e below (s₁.setTop (mkF m 0 #[.val (.ref xa), .val (.ref xs)] [])) _
  have ltP0 : xa < h0.size := P0.lt
  have ltP2 : xs < h0.size := P2.lt
  refine own_go (fun t_ k_ => XS.aloadN X0.here hx rfl (hb hby own_d9_0) rfl rfl k_) ?_
  show own_Goes p e below (s₁.setTop (mkF m 1 #[.val (.ref xa), .val (.ref xs)] [(.ref xa)])) _
  obtain ⟨_, _, ⟨T1, L1, k1, n1⟩, -, X1, ⟨Lc1, hQ1, l1, y1, z1⟩, st1⟩ := X0.specialBack hx (y := own_m3) rfl hown (mvT hZ (hw _ (List.mem_of_getElem? (i := 55) rfl))) (mvT hZ (hw _ (List.mem_of_getElem? (i := 56) rfl))) (mvT hZ (hw _ (List.mem_of_getElem? (i := 59) rfl))) (by decide) (backOf (W := 0) (own_tmInit l Z a0 hw [] xa h0 n0 O0) hZ (hw _ (List.mem_of_getElem? (i := 59) rfl)) (hw _ (List.mem_of_getElem? (i := 58) rfl)) (by decide) (by decide)) (g := (mkF m 1 #[.val (.ref xa), .val (.ref xs)] [(.ref xa)])) rfl (by rw [hml]; rfl) (Steps.refl _) (a := xa) (argsL := []) (rest := []) (lenOf own_pd_2 rfl) rfl (by show 2 * 0 + _ ≤ _; exact Nat.le_of_eq rfl) (hb hby own_d9_1) (fun _ _ => ⟨rfl, e0, (by decide : 0 + 0 ≤ _), (by decide : 0 + 0 ≤ _)⟩)
  dsimp only [Pt.U, Pt.locs, Pt.cells, Pt.slots] at X1 l1 y1 z1 st1 hQ1
  subst l1 y1 z1
  obtain ⟨Nc1, e1, rfl⟩ := hQ1
  have N1 := Fr.app N0 Nc1
  refine own_goS st1 ?_
  show own_Goes p e below (T1.setTop (mkF m 4 #[.val (.ref xa), .val (.ref xs)] [])) _
  refine own_go (fun t_ k_ => XS.aloadN X1.here hx rfl (hb hby own_d9_4) rfl rfl k_) ?_
  show own_Goes p e below (T1.setTop (mkF m 5 #[.val (.ref xa), .val (.ref xs)] [(.ref xa)])) _
  refine own_go (fun t_ k_ => XS.aloadN X1.here hx rfl (hb hby own_d9_5) rfl rfl k_) ?_
  show own_Goes p e below (T1.setTop (mkF m 6 #[.val (.ref xa), .val (.ref xs)] [(.ref xs), (.ref xa)])) _
  obtain ⟨a2, T2, h2, k2, X2, e2, E2, hS2, hk2, hZ2, hown2, st2⟩ := ldcS (s := s) (vm0 := s.vm) X1 hx hZ hown (hw _ (List.mem_of_getElem? (i := 61) rfl)) (own_strs hw) e1 hS0 hk0 (g := (mkF m 6 #[.val (.ref xa), .val (.ref xs)] [(.ref xs), (.ref xa)])) rfl (hb hby own_d9_6) (n := 24) (by decide) (by decide) (by decide) (by decide)
  refine own_go st2 ?_
  have O3 := O0.ext E2
  have sz4 : h0.size ≤ h2.size := E2.1
  have K5 := K0.ext E2
  show own_Goes p e below (T2.setTop (mkF m 8 #[.val (.ref xa), .val (.ref xs)] [(.ref a2), (.ref xs), (.ref xa)])) _
  obtain ⟨_, _, ⟨T6, L6, k6, n6⟩, -, X6, ⟨Lc6, hQ6, l6, y6, z6⟩, st6⟩ := Jvm.LawKit.callS X2 hx (y := own_m1) hown2 (mvT hZ2 (hw _ (List.mem_of_getElem? (i := 62) rfl))) (mvT hZ2 (hw _ (List.mem_of_getElem? (i := 41) rfl))) (mvT hZ2 (hw _ (List.mem_of_getElem? (i := 42) rfl))) (mvT hZ2 (hw _ (List.mem_of_getElem? (i := 43) rfl))) (by decide) (backOf (W := 1) (own_rnn2 l Z a0 hw [] xs a2 h2 n0 O3) hZ2 (hw _ (List.mem_of_getElem? (i := 43) rfl)) (hw _ (List.mem_of_getElem? (i := 42) rfl)) (by decide) (by decide)) (g := (mkF m 8 #[.val (.ref xa), .val (.ref xs)] [(.ref a2), (.ref xs), (.ref xa)])) rfl (by rw [hml]; rfl) (argsL := [(.ref xs), (.ref a2)]) (rest := [(.ref xa)]) (lenOf own_pd_0 rfl) rfl (by show 2 * 0 + _ ≤ _; exact Nat.le_of_eq rfl) (hb hby own_d9_8) (fun _ _ => ⟨rfl, e2, (by decide : 2 + 0 ≤ _), (by decide : 28 + 0 ≤ _)⟩)
  dsimp only [Pt.U, Pt.locs, Pt.cells, Pt.slots] at X6 l6 y6 z6 st6 hQ6
  subst l6 y6 z6
  obtain ⟨Nc6, e6, rfl⟩ := hQ6
  have N6 := Fr.app N1 Nc6
  refine own_go st6 ?_
  show own_Goes p e below (T6.setTop (mkF m 11 #[.val (.ref xa), .val (.ref xs)] [(.ref xs), (.ref xa)])) _
  have f7 := (P2.ext E2)
  obtain ⟨T8, X8, e8, st8⟩ := castY X6 hx hZ2 hown2 (hw _ (List.mem_of_getElem? (i := 63) rfl)) e6 (Ins.self f7) (g := (mkF m 11 #[.val (.ref xa), .val (.ref xs)] [(.ref xs), (.ref xa)])) rfl rfl (hb hby own_d9_11)
  refine own_go st8 ?_
  show own_Goes p e below (T8.setTop (mkF m 14 #[.val (.ref xa), .val (.ref xs)] [(.ref xs), (.ref xa)])) _
  have f9 := (P1.ext E2)
  have f10 := (P0.ext E2)
  obtain ⟨T11, h11, X11, e11, W11, st11⟩ := putF X8 hx hZ2 hown2 (host := "") (Or.inl (hw _ (List.mem_of_getElem? (i := 65) rfl))) Via.refl e8 f9 f10 (Or.inr ⟨(hw _ (List.mem_of_getElem? (i := 66) rfl)), rfl, hnm⟩) (hw _ (List.mem_of_getElem? (i := 50) rfl)) (ty := (.object "com/example/breach_or_proof/breachorproof/NameSymbol")) (by decide) rfl rfl (g := (mkF m 14 #[.val (.ref xa), .val (.ref xs)] [(.ref xs), (.ref xa)])) rfl rfl (hb hby own_d9_14)
  refine own_go st11 ?_
  have O12 := O3.wr W11 (show n0 ≤ xa by omega)
  have sz13 : h11.size = h2.size := Wr.size W11
  have hk14 := Nat.le_trans hk2 (Nat.le_of_eq (Wr.size W11).symm)
  have K15 := K5.wr W11 (Or.inl (List.mem_of_getElem? (i := 0) rfl))
  have N11 := Fr.snoc X11 N6 (show n0 ≤ xa by omega)
  have Fw11 := f9.same W11
  show own_Goes p e below (T11.setTop (mkF m 17 #[.val (.ref xa), .val (.ref xs)] [])) _
  refine own_endW X11 hS2 (show _ ≤ T11.heap.size by rw [e11]; exact hk14) (v := none) (fun _ => rfl) hlk (by decide) (by decide) ?_ (fun fs hr => X11.returnOut hx hret (hb hby own_d9_17) hr)
  show Q_own_nmInit Z xa xs h0 n0 _ T11.heap _
  rw [e11]
  exact ⟨N11, K15, rfl, Fw11⟩
theorem own_d11_0 : decode prog_43_method_1_code 0 = .ok (.aload_n 0, 1) := by decide +kernel
theorem own_d11_1 : decode prog_43_method_1_code 1 = .ok (.invokespecial 1, 3) := by decide +kernel
theorem own_d11_4 : decode prog_43_method_1_code 4 = .ok (.aload_n 0, 1) := by decide +kernel
theorem own_d11_5 : decode prog_43_method_1_code 5 = .ok (.aload_n 1, 1) := by decide +kernel
theorem own_d11_6 : decode prog_43_method_1_code 6 = .ok (.ldc 7, 2) := by decide +kernel
theorem own_d11_8 : decode prog_43_method_1_code 8 = .ok (.invokestatic 9, 3) := by decide +kernel
theorem own_d11_11 : decode prog_43_method_1_code 11 = .ok (.checkcast 15, 3) := by decide +kernel
theorem own_d11_14 : decode prog_43_method_1_code 14 = .ok (.putfield 17, 3) := by decide +kernel
theorem own_d11_17 : decode prog_43_method_1_code 17 = .ok (.return_, 1) := by decide +kernel
theorem own_pn_com_example_breach_or_proof_breachorproof_Variable : plainName "com/example/breach_or_proof/breachorproof/Variable" = true := by first | (simp [plainName, overriddenIn]; done) | decide +kernel
theorem own_ef_own_vrInit (m : MethodId) (xa : Addr) (xs : Addr) : entryFrame m #[(.ref xa), (.ref xs)] 2 = mkF m 0 #[.val (.ref xa), .val (.ref xs)] [] := by first | (simp [entryFrame, mkF, argsToLocals, Value.category]; done) | rfl
def Q_own_vrInit (Z : State) (xa : Addr) (xs : Addr) (h0 : Heap) (n0 : Nat) (v : Option Value) (h : Heap) (L : List Loc) : Prop := Fr n0 L ∧ Keep h0 h [xa] ∧ v = none
set_option maxRecDepth 65536 in
set_option maxHeartbeats 40000000 in
theorem own_vrInit (l : Launch) (Z : State) (a0 : Array Value) (hw : ∀ d ∈ tables_1, d.before a0 Z = true) (ws : List Jvm.Cond) (xa : Addr) (xs : Addr) (h0 : Heap) (n0 : Nat) (O0 : Old Z n0 h0) (P0 : Exa Z h0 xa "com/example/breach_or_proof/breachorproof/Variable") (P1 : Fld Z h0 xa "com/example/breach_or_proof/breachorproof/Variable" "name" "Ljava/lang/String;" .null) (P2 : Exa Z h0 xs "java/lang/String") (P3 : n0 ≤ xa) :
    MetFree l (⟨"com/example/breach_or_proof/breachorproof/Variable", "<init>", "(Ljava/lang/String;)V"⟩ : MethodName) (head1 (Jvm.Cond.code (⟨"com/example/breach_or_proof/breachorproof/Variable", "<init>", "(Ljava/lang/String;)V"⟩ : MethodName) prog_43_method_1_code 2 none :: ws) ({ frames := 2, cells := 2, slots := 20, locals := 24 } : Room)) (fun as_ U_ => as_ = #[(.ref xa), (.ref xs)] ∧ Z.Warmed39 U_.vm ∧ U_.heap = h0) (fun _ _ _ _ _ => True) (fun _ U_ o_ U2_ => ∃ v_ L_, o_ = .returned v_ ∧ Q_own_vrInit Z xa xs h0 n0 v_ U2_.heap L_ ∧ ReturnedEndW U_ o_ U2_ L_ ({ frames := 2, cells := 2, slots := 20, locals := 24 } : Room).cells ({ frames := 2, cells := 2, slots := 20, locals := 24 } : Room).slots) := by
  refine MetFree.of_bodySF (plainFor_of_name own_pn_com_example_breach_or_proof_breachorproof_Variable) hisR ?_
  intro p e s m args below meth c s₁ Bd hml0 hP hK
  obtain ⟨rfl, hZ, hh⟩ := hP
  have hx := Bd.exec
  have hby := Bd.bytes
  have hml : c.maxLocals = 2 := hml0
  have hown : s.vm.findClass "com/example/breach_or_proof/breachorproof/Variable" = some m.cls := findClass_of_methodNamed Bd.named
  have hnm := (name_of_methodNamed Bd.named Bd.method).1
  have hlk : meth.locks = false := Bd.notSynchronized
  have hret := Bd.returns
  have X0 : Stand p l e ({ frames := 2, cells := 2, slots := 20, locals := 24 } : Room) s m #[(.ref xa), (.ref xs)] below meth c s₁ [] 0 0 := Stand.of_body Bd
  have e0 : s₁.heap = h0 := by rw [← hh, Bd.state]; rfl
  have N0 := Fr.nil n0
  have z0 : Z.heap.size = n0 := O0.1
  have z1 : n0 ≤ h0.size := z0 ▸ O0.2.1
  have K0 : Keep h0 h0 [xa] := Keep.refl _ _
  have hS0 : s.Since s.vm 0 := (State.WarmedH.refl s).since 0
  have hk0 : 0 ≤ h0.size := Nat.zero_le _
  replace X0 : Stand p l e ({ frames := 2, cells := 2, slots := 20, locals := 24 } : Room) (s.setVm s.vm) m #[(.ref xa), (.ref xs)] below meth c s₁ [] 0 0 := X0
  show own_Goes p e below (s₁.setTop (entryFrame m #[(.ref xa), (.ref xs)] 2)) (own_PostW s (Q_own_vrInit Z xa xs h0 n0) ({ frames := 2, cells := 2, slots := 20, locals := 24 } : Room).cells ({ frames := 2, cells := 2, slots := 20, locals := 24 } : Room).slots)
  refine own_cast (own_ef_own_vrInit m xa xs) ?_
  show own_Goes p e below (s₁.setTop (mkF m 0 #[.val (.ref xa), .val (.ref xs)] [])) _
  have ltP0 : xa < h0.size := P0.lt
  have ltP2 : xs < h0.size := P2.lt
  refine own_go (fun t_ k_ => XS.aloadN X0.here hx rfl (hb hby own_d11_0) rfl rfl k_) ?_
  show own_Goes p e below (s₁.setTop (mkF m 1 #[.val (.ref xa), .val (.ref xs)] [(.ref xa)])) _
  obtain ⟨_, _, ⟨T1, L1, k1, n1⟩, -, X1, ⟨Lc1, hQ1, l1, y1, z1⟩, st1⟩ := X0.specialBack hx (y := own_m3) rfl hown (mvT hZ (hw _ (List.mem_of_getElem? (i := 73) rfl))) (mvT hZ (hw _ (List.mem_of_getElem? (i := 56) rfl))) (mvT hZ (hw _ (List.mem_of_getElem? (i := 59) rfl))) (by decide) (backOf (W := 0) (own_tmInit l Z a0 hw [] xa h0 n0 O0) hZ (hw _ (List.mem_of_getElem? (i := 59) rfl)) (hw _ (List.mem_of_getElem? (i := 58) rfl)) (by decide) (by decide)) (g := (mkF m 1 #[.val (.ref xa), .val (.ref xs)] [(.ref xa)])) rfl (by rw [hml]; rfl) (Steps.refl _) (a := xa) (argsL := []) (rest := []) (lenOf own_pd_2 rfl) rfl (by show 2 * 0 + _ ≤ _; exact Nat.le_of_eq rfl) (hb hby own_d11_1) (fun _ _ => ⟨rfl, e0, (by decide : 0 + 0 ≤ _), (by decide : 0 + 0 ≤ _)⟩)
  dsimp only [Pt.U, Pt.locs, Pt.cells, Pt.slots] at X1 l1 y1 z1 st1 hQ1
  subst l1 y1 z1
  obtain ⟨Nc1, e1, rfl⟩ := hQ1
  have N1 := Fr.app N0 Nc1
  refine own_goS st1 ?_
  show own_Goes p e below (T1.setTop (mkF m 4 #[.val (.ref xa), .val (.ref xs)] [])) _
  refine own_go (fun t_ k_ => XS.aloadN X1.here hx rfl (hb hby own_d11_4) rfl rfl k_) ?_
  show own_Goes p e below (T1.setTop (mkF m 5 #[.val (.ref xa), .val (.ref xs)] [(.ref xa)])) _
  refine own_go (fun t_ k_ => XS.aloadN X1.here hx rfl (hb hby own_d11_5) rfl rfl k_) ?_
  show own_Goes p e below (T1.setTop (mkF m 6 #[.val (.ref xa), .val (.ref xs)] [(.ref xs), (.ref xa)])) _
  obtain ⟨a2, T2, h2, k2, X2, e2, E2, hS2, hk2, hZ2, hown2, st2⟩ := ldcS (s := s) (vm0 := s.vm) X1 hx hZ hown (hw _ (List.mem_of_getElem? (i := 74) rfl)) (own_strs hw) e1 hS0 hk0 (g := (mkF m 6 #[.val (.ref xa), .val (.ref xs)] [(.ref xs), (.ref xa)])) rfl (hb hby own_d11_6) (n := 16) (by decide) (by decide) (by decide) (by decide)
  refine own_go st2 ?_
  have O3 := O0.ext E2
  have sz4 : h0.size ≤ h2.size := E2.1
  have K5 := K0.ext E2
  show own_Goes p e below (T2.setTop (mkF m 8 #[.val (.ref xa), .val (.ref xs)] [(.ref a2), (.ref xs), (.ref xa)])) _
  obtain ⟨_, _, ⟨T6, L6, k6, n6⟩, -, X6, ⟨Lc6, hQ6, l6, y6, z6⟩, st6⟩ := Jvm.LawKit.callS X2 hx (y := own_m1) hown2 (mvT hZ2 (hw _ (List.mem_of_getElem? (i := 75) rfl))) (mvT hZ2 (hw _ (List.mem_of_getElem? (i := 41) rfl))) (mvT hZ2 (hw _ (List.mem_of_getElem? (i := 42) rfl))) (mvT hZ2 (hw _ (List.mem_of_getElem? (i := 43) rfl))) (by decide) (backOf (W := 1) (own_rnn2 l Z a0 hw [] xs a2 h2 n0 O3) hZ2 (hw _ (List.mem_of_getElem? (i := 43) rfl)) (hw _ (List.mem_of_getElem? (i := 42) rfl)) (by decide) (by decide)) (g := (mkF m 8 #[.val (.ref xa), .val (.ref xs)] [(.ref a2), (.ref xs), (.ref xa)])) rfl (by rw [hml]; rfl) (argsL := [(.ref xs), (.ref a2)]) (rest := [(.ref xa)]) (lenOf own_pd_0 rfl) rfl (by show 2 * 0 + _ ≤ _; exact Nat.le_of_eq rfl) (hb hby own_d11_8) (fun _ _ => ⟨rfl, e2, (by decide : 2 + 0 ≤ _), (by decide : 20 + 0 ≤ _)⟩)
  dsimp only [Pt.U, Pt.locs, Pt.cells, Pt.slots] at X6 l6 y6 z6 st6 hQ6
  subst l6 y6 z6
  obtain ⟨Nc6, e6, rfl⟩ := hQ6
  have N6 := Fr.app N1 Nc6
  refine own_go st6 ?_
  show own_Goes p e below (T6.setTop (mkF m 11 #[.val (.ref xa), .val (.ref xs)] [(.ref xs), (.ref xa)])) _
  have f7 := (P2.ext E2)
  obtain ⟨T8, X8, e8, st8⟩ := castY X6 hx hZ2 hown2 (hw _ (List.mem_of_getElem? (i := 76) rfl)) e6 (Ins.self f7) (g := (mkF m 11 #[.val (.ref xa), .val (.ref xs)] [(.ref xs), (.ref xa)])) rfl rfl (hb hby own_d11_11)
  refine own_go st8 ?_
  show own_Goes p e below (T8.setTop (mkF m 14 #[.val (.ref xa), .val (.ref xs)] [(.ref xs), (.ref xa)])) _
  have f9 := (P1.ext E2)
  have f10 := (P0.ext E2)
  obtain ⟨T11, h11, X11, e11, W11, st11⟩ := putF X8 hx hZ2 hown2 (host := "") (Or.inl (hw _ (List.mem_of_getElem? (i := 77) rfl))) Via.refl e8 f9 f10 (Or.inr ⟨(hw _ (List.mem_of_getElem? (i := 78) rfl)), rfl, hnm⟩) (hw _ (List.mem_of_getElem? (i := 68) rfl)) (ty := (.object "java/lang/String")) (by decide) rfl rfl (g := (mkF m 14 #[.val (.ref xa), .val (.ref xs)] [(.ref xs), (.ref xa)])) rfl rfl (hb hby own_d11_14)
  refine own_go st11 ?_
  have O12 := O3.wr W11 (show n0 ≤ xa by omega)
  have sz13 : h11.size = h2.size := Wr.size W11
  have hk14 := Nat.le_trans hk2 (Nat.le_of_eq (Wr.size W11).symm)
  have K15 := K5.wr W11 (Or.inl (List.mem_of_getElem? (i := 0) rfl))
  have N11 := Fr.snoc X11 N6 (show n0 ≤ xa by omega)
  have Fw11 := f9.same W11
  show own_Goes p e below (T11.setTop (mkF m 17 #[.val (.ref xa), .val (.ref xs)] [])) _
  refine own_endW X11 hS2 (show _ ≤ T11.heap.size by rw [e11]; exact hk14) (v := none) (fun _ => rfl) hlk (by decide) (by decide) ?_ (fun fs hr => X11.returnOut hx hret (hb hby own_d11_17) hr)
  show Q_own_vrInit Z xa xs h0 n0 _ T11.heap _
  rw [e11]
  exact ⟨N11, K15, rfl⟩
theorem own_d12_0 : decode prog_20_method_6_code 0 = .ok (.aload_n 1, 1) := by decide +kernel
theorem own_d12_1 : decode prog_20_method_6_code 1 = .ok (.instanceof 18, 3) := by decide +kernel
theorem own_d12_4 : decode prog_20_method_6_code 4 = .ok (.ifCond .eq 21, 3) := by decide +kernel
theorem own_d12_25 : decode prog_20_method_6_code 25 = .ok (.iconst 0, 1) := by decide +kernel
theorem own_d12_26 : decode prog_20_method_6_code 26 = .ok (.ireturn, 1) := by decide +kernel
theorem own_ef_own_eqN (m : MethodId) (xa : Addr) : entryFrame m #[(.ref xa), .null] 2 = mkF m 0 #[.val (.ref xa), .val .null] [] := by first | (simp [entryFrame, mkF, argsToLocals, Value.category]; done) | rfl
def Q_own_eqN (Z : State) (xa : Addr) (h0 : Heap) (n0 : Nat) (v : Option Value) (h : Heap) (L : List Loc) : Prop := Fr n0 L ∧ h = h0 ∧ v = some (.int (0 : Int32))
set_option maxRecDepth 65536 in
set_option maxHeartbeats 40000000 in
theorem own_eqN (l : Launch) (Z : State) (a0 : Array Value) (hw : ∀ d ∈ tables_1, d.before a0 Z = true) (ws : List Jvm.Cond) (xa : Addr) (h0 : Heap) (n0 : Nat) (O0 : Old Z n0 h0) :
    MetFree l (⟨"com/example/breach_or_proof/breachorproof/Name", "equals", "(Ljava/lang/Object;)Z"⟩ : MethodName) (head1 (Jvm.Cond.code (⟨"com/example/breach_or_proof/breachorproof/Name", "equals", "(Ljava/lang/Object;)Z"⟩ : MethodName) prog_20_method_6_code 2 (some .boolean) :: ws) ({ frames := 0, cells := 0, slots := 0, locals := 0 } : Room)) (fun as_ U_ => as_ = #[(.ref xa), .null] ∧ Z.Warmed39 U_.vm ∧ U_.heap = h0) (fun _ _ _ _ _ => True) (fun _ U_ o_ U2_ => ∃ v_ L_, o_ = .returned v_ ∧ Q_own_eqN Z xa h0 n0 v_ U2_.heap L_ ∧ FrameEnd U_ o_ U2_ L_ ({ frames := 0, cells := 0, slots := 0, locals := 0 } : Room).cells ({ frames := 0, cells := 0, slots := 0, locals := 0 } : Room).slots) := by
  refine MetFree.of_bodySF (plainFor_of_name own_pn_com_example_breach_or_proof_breachorproof_Name) hisR ?_
  intro p e s m args below meth c s₁ Bd hml0 hP hK
  obtain ⟨rfl, hZ, hh⟩ := hP
  have hx := Bd.exec
  have hby := Bd.bytes
  have hml : c.maxLocals = 2 := hml0
  have hown : s.vm.findClass "com/example/breach_or_proof/breachorproof/Name" = some m.cls := findClass_of_methodNamed Bd.named
  have hnm := (name_of_methodNamed Bd.named Bd.method).1
  have hlk : meth.locks = false := Bd.notSynchronized
  have hret := Bd.returns
  have X0 : Stand p l e ({ frames := 0, cells := 0, slots := 0, locals := 0 } : Room) s m #[(.ref xa), .null] below meth c s₁ [] 0 0 := Stand.of_body Bd
  have e0 : s₁.heap = h0 := by rw [← hh, Bd.state]; rfl
  have N0 := Fr.nil n0
  have z0 : Z.heap.size = n0 := O0.1
  have z1 : n0 ≤ h0.size := z0 ▸ O0.2.1
  show own_Goes p e below (s₁.setTop (entryFrame m #[(.ref xa), .null] 2)) (own_PostN s (Q_own_eqN Z xa h0 n0) ({ frames := 0, cells := 0, slots := 0, locals := 0 } : Room).cells ({ frames := 0, cells := 0, slots := 0, locals := 0 } : Room).slots)
  refine own_cast (own_ef_own_eqN m xa) ?_
  show own_Goes p e below (s₁.setTop (mkF m 0 #[.val (.ref xa), .val .null] [])) _
  refine own_go (fun t_ k_ => XS.aloadN X0.here hx rfl (hb hby own_d12_0) rfl rfl k_) ?_
  show own_Goes p e below (s₁.setTop (mkF m 1 #[.val (.ref xa), .val .null] [.null])) _
  refine own_go (fun t_ k_ => X0.instanceofNull hx (g := (mkF m 1 #[.val (.ref xa), .val .null] [.null])) rfl rfl (hb hby own_d12_1) _ k_) ?_
  show own_Goes p e below (s₁.setTop (mkF m 4 #[.val (.ref xa), .val .null] [(.int (0 : Int32))])) _
  refine own_go (fun t_ k_ => XS.ifYes X0.here hx rfl (pc0 := 4) (pc' := 25) rfl (hb hby own_d12_4) rfl ((if0 _ _).trans (teq (show ((0 : Int32) = (0 : Int32)) from by decide)).1) (by decide) (by decide) k_) ?_
  show own_Goes p e below (s₁.setTop (mkF m 25 #[.val (.ref xa), .val .null] [])) _
  refine own_go (fun t_ k_ => XS.iconst X0.here hx rfl (hb hby own_d12_25) k_) ?_
  show own_Goes p e below (s₁.setTop (mkF m 26 #[.val (.ref xa), .val .null] [(.int (0 : Int32))])) _
  refine own_endN X0 (v := (some (.int (0 : Int32)))) (fun h => by rw [hret] at h; cases h) hlk (by decide) (by decide) ?_ (fun fs hr => retOut X0 hx hret rfl (Or.inl ⟨rfl, Or.inr (Or.inl rfl), _, rfl⟩) (hb hby own_d12_26) hr)
  show Q_own_eqN Z xa h0 n0 _ s₁.heap _
  rw [e0]
  exact ⟨N0, rfl, rfl⟩
theorem own_ef_own_eqO0 (m : MethodId) (xa : Addr) (xo : Addr) : entryFrame m #[(.ref xa), (.ref xo)] 2 = mkF m 0 #[.val (.ref xa), .val (.ref xo)] [] := by first | (simp [entryFrame, mkF, argsToLocals, Value.category]; done) | rfl
def Q_own_eqO0 (Z : State) (xa : Addr) (xo : Addr) (h0 : Heap) (n0 : Nat) (v : Option Value) (h : Heap) (L : List Loc) : Prop := Fr n0 L ∧ h = h0 ∧ v = some (.int (0 : Int32))
set_option maxRecDepth 65536 in
set_option maxHeartbeats 40000000 in
theorem own_eqO0 (l : Launch) (Z : State) (a0 : Array Value) (hw : ∀ d ∈ tables_1, d.before a0 Z = true) (ws : List Jvm.Cond) (xa : Addr) (xo : Addr) (h0 : Heap) (n0 : Nat) (O0 : Old Z n0 h0) (P0 : Exa Z h0 xo "com/example/breach_or_proof/breachorproof/Variable") :
    MetFree l (⟨"com/example/breach_or_proof/breachorproof/Name", "equals", "(Ljava/lang/Object;)Z"⟩ : MethodName) (head1 (Jvm.Cond.code (⟨"com/example/breach_or_proof/breachorproof/Name", "equals", "(Ljava/lang/Object;)Z"⟩ : MethodName) prog_20_method_6_code 2 (some .boolean) :: ws) ({ frames := 0, cells := 0, slots := 0, locals := 0 } : Room)) (fun as_ U_ => as_ = #[(.ref xa), (.ref xo)] ∧ Z.Warmed39 U_.vm ∧ U_.heap = h0) (fun _ _ _ _ _ => True) (fun _ U_ o_ U2_ => ∃ v_ L_, o_ = .returned v_ ∧ Q_own_eqO0 Z xa xo h0 n0 v_ U2_.heap L_ ∧ FrameEnd U_ o_ U2_ L_ ({ frames := 0, cells := 0, slots := 0, locals := 0 } : Room).cells ({ frames := 0, cells := 0, slots := 0, locals := 0 } : Room).slots) := by
  refine MetFree.of_bodySF (plainFor_of_name own_pn_com_example_breach_or_proof_breachorproof_Name) hisR ?_
  intro p e s m args below meth c s₁ Bd hml0 hP hK
  obtain ⟨rfl, hZ, hh⟩ := hP
  have hx := Bd.exec
  have hby := Bd.bytes
  have hml : c.maxLocals = 2 := hml0
  have hown : s.vm.findClass "com/example/breach_or_proof/breachorproof/Name" = some m.cls := findClass_of_methodNamed Bd.named
  have hnm := (name_of_methodNamed Bd.named Bd.method).1
  have hlk : meth.locks = false := Bd.notSynchronized
  have hret := Bd.returns
  have X0 : Stand p l e ({ frames := 0, cells := 0, slots := 0, locals := 0 } : Room) s m #[(.ref xa), (.ref xo)] below meth c s₁ [] 0 0 := Stand.of_body Bd
  have e0 : s₁.heap = h0 := by rw [← hh, Bd.state]; rfl
  have N0 := Fr.nil n0
  have z0 : Z.heap.size = n0 := O0.1
  have z1 : n0 ≤ h0.size := z0 ▸ O0.2.1
  show own_Goes p e below (s₁.setTop (entryFrame m #[(.ref xa), (.ref xo)] 2)) (own_PostN s (Q_own_eqO0 Z xa xo h0 n0) ({ frames := 0, cells := 0, slots := 0, locals := 0 } : Room).cells ({ frames := 0, cells := 0, slots := 0, locals := 0 } : Room).slots)
  refine own_cast (own_ef_own_eqO0 m xa xo) ?_
  show own_Goes p e below (s₁.setTop (mkF m 0 #[.val (.ref xa), .val (.ref xo)] [])) _
  have ltP0 : xo < h0.size := P0.lt
  refine own_go (fun t_ k_ => XS.aloadN X0.here hx rfl (hb hby own_d12_0) rfl rfl k_) ?_
  show own_Goes p e below (s₁.setTop (mkF m 1 #[.val (.ref xa), .val (.ref xo)] [(.ref xo)])) _
  obtain ⟨T1, X1, e1, st1⟩ := instNo X0 hx hZ hown (hw _ (List.mem_of_getElem? (i := 85) rfl)) e0 P0 (own_NSno (hw _ (List.mem_of_getElem? (i := 87) rfl)) (hw _ (List.mem_of_getElem? (i := 50) rfl)) (NS.step (hw _ (List.mem_of_getElem? (i := 87) rfl)) (NS.step (hw _ (List.mem_of_getElem? (i := 88) rfl)) (own_NSroot (hw _ (List.mem_of_getElem? (i := 89) rfl)) (hw _ (List.mem_of_getElem? (i := 50) rfl)) (by decide)) (by decide)) (by decide)) (by decide)) (g := (mkF m 1 #[.val (.ref xa), .val (.ref xo)] [(.ref xo)])) rfl rfl (hb hby own_d12_1)
  refine own_go st1 ?_
  show own_Goes p e below (T1.setTop (mkF m 4 #[.val (.ref xa), .val (.ref xo)] [(.int (0 : Int32))])) _
  refine own_go (fun t_ k_ => XS.ifYes X1.here hx rfl (pc0 := 4) (pc' := 25) rfl (hb hby own_d12_4) rfl ((if0 _ _).trans (teq (show ((0 : Int32) = (0 : Int32)) from by decide)).1) (by decide) (by decide) k_) ?_
  show own_Goes p e below (T1.setTop (mkF m 25 #[.val (.ref xa), .val (.ref xo)] [])) _
  refine own_go (fun t_ k_ => XS.iconst X1.here hx rfl (hb hby own_d12_25) k_) ?_
  show own_Goes p e below (T1.setTop (mkF m 26 #[.val (.ref xa), .val (.ref xo)] [(.int (0 : Int32))])) _
  refine own_endN X1 (v := (some (.int (0 : Int32)))) (fun h => by rw [hret] at h; cases h) hlk (by decide) (by decide) ?_ (fun fs hr => retOut X1 hx hret rfl (Or.inl ⟨rfl, Or.inr (Or.inl rfl), _, rfl⟩) (hb hby own_d12_26) hr)
  show Q_own_eqO0 Z xa xo h0 n0 _ T1.heap _
  rw [e1]
  exact ⟨N0, rfl, rfl⟩
theorem own_ef_own_eqO1 (m : MethodId) (xa : Addr) (xo : Addr) : entryFrame m #[(.ref xa), (.ref xo)] 2 = mkF m 0 #[.val (.ref xa), .val (.ref xo)] [] := by first | (simp [entryFrame, mkF, argsToLocals, Value.category]; done) | rfl
def Q_own_eqO1 (Z : State) (xa : Addr) (xo : Addr) (h0 : Heap) (n0 : Nat) (v : Option Value) (h : Heap) (L : List Loc) : Prop := Fr n0 L ∧ h = h0 ∧ v = some (.int (0 : Int32))
set_option maxRecDepth 65536 in
set_option maxHeartbeats 40000000 in
theorem own_eqO1 (l : Launch) (Z : State) (a0 : Array Value) (hw : ∀ d ∈ tables_1, d.before a0 Z = true) (ws : List Jvm.Cond) (xa : Addr) (xo : Addr) (h0 : Heap) (n0 : Nat) (O0 : Old Z n0 h0) (P0 : Exa Z h0 xo "com/example/breach_or_proof/breachorproof/NameSymbol") :
    MetFree l (⟨"com/example/breach_or_proof/breachorproof/Name", "equals", "(Ljava/lang/Object;)Z"⟩ : MethodName) (head1 (Jvm.Cond.code (⟨"com/example/breach_or_proof/breachorproof/Name", "equals", "(Ljava/lang/Object;)Z"⟩ : MethodName) prog_20_method_6_code 2 (some .boolean) :: ws) ({ frames := 0, cells := 0, slots := 0, locals := 0 } : Room)) (fun as_ U_ => as_ = #[(.ref xa), (.ref xo)] ∧ Z.Warmed39 U_.vm ∧ U_.heap = h0) (fun _ _ _ _ _ => True) (fun _ U_ o_ U2_ => ∃ v_ L_, o_ = .returned v_ ∧ Q_own_eqO1 Z xa xo h0 n0 v_ U2_.heap L_ ∧ FrameEnd U_ o_ U2_ L_ ({ frames := 0, cells := 0, slots := 0, locals := 0 } : Room).cells ({ frames := 0, cells := 0, slots := 0, locals := 0 } : Room).slots) := by
  refine MetFree.of_bodySF (plainFor_of_name own_pn_com_example_breach_or_proof_breachorproof_Name) hisR ?_
  intro p e s m args below meth c s₁ Bd hml0 hP hK
  obtain ⟨rfl, hZ, hh⟩ := hP
  have hx := Bd.exec
  have hby := Bd.bytes
  have hml : c.maxLocals = 2 := hml0
  have hown : s.vm.findClass "com/example/breach_or_proof/breachorproof/Name" = some m.cls := findClass_of_methodNamed Bd.named
  have hnm := (name_of_methodNamed Bd.named Bd.method).1
  have hlk : meth.locks = false := Bd.notSynchronized
  have hret := Bd.returns
  have X0 : Stand p l e ({ frames := 0, cells := 0, slots := 0, locals := 0 } : Room) s m #[(.ref xa), (.ref xo)] below meth c s₁ [] 0 0 := Stand.of_body Bd
  have e0 : s₁.heap = h0 := by rw [← hh, Bd.state]; rfl
  have N0 := Fr.nil n0
  have z0 : Z.heap.size = n0 := O0.1
  have z1 : n0 ≤ h0.size := z0 ▸ O0.2.1
  show own_Goes p e below (s₁.setTop (entryFrame m #[(.ref xa), (.ref xo)] 2)) (own_PostN s (Q_own_eqO1 Z xa xo h0 n0) ({ frames := 0, cells := 0, slots := 0, locals := 0 } : Room).cells ({ frames := 0, cells := 0, slots := 0, locals := 0 } : Room).slots)
  refine own_cast (own_ef_own_eqO1 m xa xo) ?_
  show own_Goes p e below (s₁.setTop (mkF m 0 #[.val (.ref xa), .val (.ref xo)] [])) _
  have ltP0 : xo < h0.size := P0.lt
  refine own_go (fun t_ k_ => XS.aloadN X0.here hx rfl (hb hby own_d12_0) rfl rfl k_) ?_
  show own_Goes p e below (s₁.setTop (mkF m 1 #[.val (.ref xa), .val (.ref xo)] [(.ref xo)])) _
  obtain ⟨T1, X1, e1, st1⟩ := instNo X0 hx hZ hown (hw _ (List.mem_of_getElem? (i := 85) rfl)) e0 P0 (own_NSno (hw _ (List.mem_of_getElem? (i := 91) rfl)) (hw _ (List.mem_of_getElem? (i := 50) rfl)) (NS.step (hw _ (List.mem_of_getElem? (i := 91) rfl)) (own_NSroot (hw _ (List.mem_of_getElem? (i := 89) rfl)) (hw _ (List.mem_of_getElem? (i := 50) rfl)) (by decide)) (by decide)) (by decide)) (g := (mkF m 1 #[.val (.ref xa), .val (.ref xo)] [(.ref xo)])) rfl rfl (hb hby own_d12_1)
  refine own_go st1 ?_
  show own_Goes p e below (T1.setTop (mkF m 4 #[.val (.ref xa), .val (.ref xo)] [(.int (0 : Int32))])) _
  refine own_go (fun t_ k_ => XS.ifYes X1.here hx rfl (pc0 := 4) (pc' := 25) rfl (hb hby own_d12_4) rfl ((if0 _ _).trans (teq (show ((0 : Int32) = (0 : Int32)) from by decide)).1) (by decide) (by decide) k_) ?_
  show own_Goes p e below (T1.setTop (mkF m 25 #[.val (.ref xa), .val (.ref xo)] [])) _
  refine own_go (fun t_ k_ => XS.iconst X1.here hx rfl (hb hby own_d12_25) k_) ?_
  show own_Goes p e below (T1.setTop (mkF m 26 #[.val (.ref xa), .val (.ref xo)] [(.int (0 : Int32))])) _
  refine own_endN X1 (v := (some (.int (0 : Int32)))) (fun h => by rw [hret] at h; cases h) hlk (by decide) (by decide) ?_ (fun fs hr => retOut X1 hx hret rfl (Or.inl ⟨rfl, Or.inr (Or.inl rfl), _, rfl⟩) (hb hby own_d12_26) hr)
  show Q_own_eqO1 Z xa xo h0 n0 _ T1.heap _
  rw [e1]
  exact ⟨N0, rfl, rfl⟩
theorem own_ef_own_eqO2 (m : MethodId) (xa : Addr) (xo : Addr) : entryFrame m #[(.ref xa), (.ref xo)] 2 = mkF m 0 #[.val (.ref xa), .val (.ref xo)] [] := by first | (simp [entryFrame, mkF, argsToLocals, Value.category]; done) | rfl
def Q_own_eqO2 (Z : State) (xa : Addr) (xo : Addr) (h0 : Heap) (n0 : Nat) (v : Option Value) (h : Heap) (L : List Loc) : Prop := Fr n0 L ∧ h = h0 ∧ v = some (.int (0 : Int32))
set_option maxRecDepth 65536 in
set_option maxHeartbeats 40000000 in
theorem own_eqO2 (l : Launch) (Z : State) (a0 : Array Value) (hw : ∀ d ∈ tables_1, d.before a0 Z = true) (ws : List Jvm.Cond) (xa : Addr) (xo : Addr) (h0 : Heap) (n0 : Nat) (O0 : Old Z n0 h0) (P0 : Exa Z h0 xo "java/lang/String") :
    MetFree l (⟨"com/example/breach_or_proof/breachorproof/Name", "equals", "(Ljava/lang/Object;)Z"⟩ : MethodName) (head1 (Jvm.Cond.code (⟨"com/example/breach_or_proof/breachorproof/Name", "equals", "(Ljava/lang/Object;)Z"⟩ : MethodName) prog_20_method_6_code 2 (some .boolean) :: ws) ({ frames := 0, cells := 0, slots := 0, locals := 0 } : Room)) (fun as_ U_ => as_ = #[(.ref xa), (.ref xo)] ∧ Z.Warmed39 U_.vm ∧ U_.heap = h0) (fun _ _ _ _ _ => True) (fun _ U_ o_ U2_ => ∃ v_ L_, o_ = .returned v_ ∧ Q_own_eqO2 Z xa xo h0 n0 v_ U2_.heap L_ ∧ FrameEnd U_ o_ U2_ L_ ({ frames := 0, cells := 0, slots := 0, locals := 0 } : Room).cells ({ frames := 0, cells := 0, slots := 0, locals := 0 } : Room).slots) := by
  refine MetFree.of_bodySF (plainFor_of_name own_pn_com_example_breach_or_proof_breachorproof_Name) hisR ?_
  intro p e s m args below meth c s₁ Bd hml0 hP hK
  obtain ⟨rfl, hZ, hh⟩ := hP
  have hx := Bd.exec
  have hby := Bd.bytes
  have hml : c.maxLocals = 2 := hml0
  have hown : s.vm.findClass "com/example/breach_or_proof/breachorproof/Name" = some m.cls := findClass_of_methodNamed Bd.named
  have hnm := (name_of_methodNamed Bd.named Bd.method).1
  have hlk : meth.locks = false := Bd.notSynchronized
  have hret := Bd.returns
  have X0 : Stand p l e ({ frames := 0, cells := 0, slots := 0, locals := 0 } : Room) s m #[(.ref xa), (.ref xo)] below meth c s₁ [] 0 0 := Stand.of_body Bd
  have e0 : s₁.heap = h0 := by rw [← hh, Bd.state]; rfl
  have N0 := Fr.nil n0
  have z0 : Z.heap.size = n0 := O0.1
  have z1 : n0 ≤ h0.size := z0 ▸ O0.2.1
  show own_Goes p e below (s₁.setTop (entryFrame m #[(.ref xa), (.ref xo)] 2)) (own_PostN s (Q_own_eqO2 Z xa xo h0 n0) ({ frames := 0, cells := 0, slots := 0, locals := 0 } : Room).cells ({ frames := 0, cells := 0, slots := 0, locals := 0 } : Room).slots)
  refine own_cast (own_ef_own_eqO2 m xa xo) ?_
  show own_Goes p e below (s₁.setTop (mkF m 0 #[.val (.ref xa), .val (.ref xo)] [])) _
  have ltP0 : xo < h0.size := P0.lt
  refine own_go (fun t_ k_ => XS.aloadN X0.here hx rfl (hb hby own_d12_0) rfl rfl k_) ?_
  show own_Goes p e below (s₁.setTop (mkF m 1 #[.val (.ref xa), .val (.ref xo)] [(.ref xo)])) _
  obtain ⟨T1, X1, e1, st1⟩ := instNo X0 hx hZ hown (hw _ (List.mem_of_getElem? (i := 85) rfl)) e0 P0 (own_NSno (hw _ (List.mem_of_getElem? (i := 90) rfl)) (hw _ (List.mem_of_getElem? (i := 50) rfl)) (NS.step (hw _ (List.mem_of_getElem? (i := 90) rfl)) (own_NSroot (hw _ (List.mem_of_getElem? (i := 89) rfl)) (hw _ (List.mem_of_getElem? (i := 50) rfl)) (by decide)) (by decide)) (by decide)) (g := (mkF m 1 #[.val (.ref xa), .val (.ref xo)] [(.ref xo)])) rfl rfl (hb hby own_d12_1)
  refine own_go st1 ?_
  show own_Goes p e below (T1.setTop (mkF m 4 #[.val (.ref xa), .val (.ref xo)] [(.int (0 : Int32))])) _
  refine own_go (fun t_ k_ => XS.ifYes X1.here hx rfl (pc0 := 4) (pc' := 25) rfl (hb hby own_d12_4) rfl ((if0 _ _).trans (teq (show ((0 : Int32) = (0 : Int32)) from by decide)).1) (by decide) (by decide) k_) ?_
  show own_Goes p e below (T1.setTop (mkF m 25 #[.val (.ref xa), .val (.ref xo)] [])) _
  refine own_go (fun t_ k_ => XS.iconst X1.here hx rfl (hb hby own_d12_25) k_) ?_
  show own_Goes p e below (T1.setTop (mkF m 26 #[.val (.ref xa), .val (.ref xo)] [(.int (0 : Int32))])) _
  refine own_endN X1 (v := (some (.int (0 : Int32)))) (fun h => by rw [hret] at h; cases h) hlk (by decide) (by decide) ?_ (fun fs hr => retOut X1 hx hret rfl (Or.inl ⟨rfl, Or.inr (Or.inl rfl), _, rfl⟩) (hb hby own_d12_26) hr)
  show Q_own_eqO2 Z xa xo h0 n0 _ T1.heap _
  rw [e1]
  exact ⟨N0, rfl, rfl⟩
theorem own_d12_7 : decode prog_20_method_6_code 7 = .ok (.aload_n 1, 1) := by decide +kernel
theorem own_d12_8 : decode prog_20_method_6_code 8 = .ok (.checkcast 18, 3) := by decide +kernel
theorem own_d12_11 : decode prog_20_method_6_code 11 = .ok (.getfield 17, 3) := by decide +kernel
theorem own_d12_14 : decode prog_20_method_6_code 14 = .ok (.aload_n 0, 1) := by decide +kernel
theorem own_d12_15 : decode prog_20_method_6_code 15 = .ok (.getfield 17, 3) := by decide +kernel
theorem own_d12_18 : decode prog_20_method_6_code 18 = .ok (.if_acmp .ne 7, 3) := by decide +kernel
theorem own_d12_21 : decode prog_20_method_6_code 21 = .ok (.iconst 1, 1) := by decide +kernel
theorem own_d12_22 : decode prog_20_method_6_code 22 = .ok (.goto 4, 3) := by decide +kernel
theorem own_ef_own_eqT (m : MethodId) (xa : Addr) (xo : Addr) : entryFrame m #[(.ref xa), (.ref xo)] 2 = mkF m 0 #[.val (.ref xa), .val (.ref xo)] [] := by first | (simp [entryFrame, mkF, argsToLocals, Value.category]; done) | rfl
def Q_own_eqT (Z : State) (xa : Addr) (xo : Addr) (xp : Addr) (h0 : Heap) (n0 : Nat) (v : Option Value) (h : Heap) (L : List Loc) : Prop := Fr n0 L ∧ h = h0 ∧ v = some (.int (1 : Int32))
set_option maxRecDepth 65536 in
set_option maxHeartbeats 40000000 in
theorem own_eqT (l : Launch) (Z : State) (a0 : Array Value) (hw : ∀ d ∈ tables_1, d.before a0 Z = true) (ws : List Jvm.Cond) (xa : Addr) (xo : Addr) (xp : Addr) (h0 : Heap) (n0 : Nat) (O0 : Old Z n0 h0) (P0 : Exa Z h0 xo "com/example/breach_or_proof/breachorproof/Name") (P1 : Fld Z h0 xa "com/example/breach_or_proof/breachorproof/Name" "symbol" "Lcom/example/breach_or_proof/breachorproof/NameSymbol;" (.ref xp)) (P2 : Fld Z h0 xo "com/example/breach_or_proof/breachorproof/Name" "symbol" "Lcom/example/breach_or_proof/breachorproof/NameSymbol;" (.ref xp)) :
    MetFree l (⟨"com/example/breach_or_proof/breachorproof/Name", "equals", "(Ljava/lang/Object;)Z"⟩ : MethodName) (head1 (Jvm.Cond.code (⟨"com/example/breach_or_proof/breachorproof/Name", "equals", "(Ljava/lang/Object;)Z"⟩ : MethodName) prog_20_method_6_code 2 (some .boolean) :: ws) ({ frames := 0, cells := 0, slots := 0, locals := 0 } : Room)) (fun as_ U_ => as_ = #[(.ref xa), (.ref xo)] ∧ Z.Warmed39 U_.vm ∧ U_.heap = h0) (fun _ _ _ _ _ => True) (fun _ U_ o_ U2_ => ∃ v_ L_, o_ = .returned v_ ∧ Q_own_eqT Z xa xo xp h0 n0 v_ U2_.heap L_ ∧ FrameEnd U_ o_ U2_ L_ ({ frames := 0, cells := 0, slots := 0, locals := 0 } : Room).cells ({ frames := 0, cells := 0, slots := 0, locals := 0 } : Room).slots) := by
  refine MetFree.of_bodySF (plainFor_of_name own_pn_com_example_breach_or_proof_breachorproof_Name) hisR ?_
  intro p e s m args below meth c s₁ Bd hml0 hP hK
  obtain ⟨rfl, hZ, hh⟩ := hP
  have hx := Bd.exec
  have hby := Bd.bytes
  have hml : c.maxLocals = 2 := hml0
  have hown : s.vm.findClass "com/example/breach_or_proof/breachorproof/Name" = some m.cls := findClass_of_methodNamed Bd.named
  have hnm := (name_of_methodNamed Bd.named Bd.method).1
  have hlk : meth.locks = false := Bd.notSynchronized
  have hret := Bd.returns
  have X0 : Stand p l e ({ frames := 0, cells := 0, slots := 0, locals := 0 } : Room) s m #[(.ref xa), (.ref xo)] below meth c s₁ [] 0 0 := Stand.of_body Bd
  have e0 : s₁.heap = h0 := by rw [← hh, Bd.state]; rfl
  have N0 := Fr.nil n0
  have z0 : Z.heap.size = n0 := O0.1
  have z1 : n0 ≤ h0.size := z0 ▸ O0.2.1
  show own_Goes p e below (s₁.setTop (entryFrame m #[(.ref xa), (.ref xo)] 2)) (own_PostN s (Q_own_eqT Z xa xo xp h0 n0) ({ frames := 0, cells := 0, slots := 0, locals := 0 } : Room).cells ({ frames := 0, cells := 0, slots := 0, locals := 0 } : Room).slots)
  refine own_cast (own_ef_own_eqT m xa xo) ?_
  show own_Goes p e below (s₁.setTop (mkF m 0 #[.val (.ref xa), .val (.ref xo)] [])) _
  have ltP0 : xo < h0.size := P0.lt
  refine own_go (fun t_ k_ => XS.aloadN X0.here hx rfl (hb hby own_d12_0) rfl rfl k_) ?_
  show own_Goes p e below (s₁.setTop (mkF m 1 #[.val (.ref xa), .val (.ref xo)] [(.ref xo)])) _
  obtain ⟨T1, X1, e1, st1⟩ := instY X0 hx hZ hown (hw _ (List.mem_of_getElem? (i := 85) rfl)) e0 (Ins.self P0) (g := (mkF m 1 #[.val (.ref xa), .val (.ref xo)] [(.ref xo)])) rfl rfl (hb hby own_d12_1)
  refine own_go st1 ?_
  show own_Goes p e below (T1.setTop (mkF m 4 #[.val (.ref xa), .val (.ref xo)] [(.int (1 : Int32))])) _
  refine own_go (fun t_ k_ => XS.ifNo X1.here hx rfl (hb hby own_d12_4) rfl ((if0 _ _).trans (feq (show ¬ ((1 : Int32) = (0 : Int32)) from by decide)).1) k_) ?_
  show own_Goes p e below (T1.setTop (mkF m 7 #[.val (.ref xa), .val (.ref xo)] [])) _
  refine own_go (fun t_ k_ => XS.aloadN X1.here hx rfl (hb hby own_d12_7) rfl rfl k_) ?_
  show own_Goes p e below (T1.setTop (mkF m 8 #[.val (.ref xa), .val (.ref xo)] [(.ref xo)])) _
  obtain ⟨T2, X2, e2, st2⟩ := castY X1 hx hZ hown (hw _ (List.mem_of_getElem? (i := 85) rfl)) e1 (Ins.self P0) (g := (mkF m 8 #[.val (.ref xa), .val (.ref xo)] [(.ref xo)])) rfl rfl (hb hby own_d12_8)
  refine own_go st2 ?_
  show own_Goes p e below (T2.setTop (mkF m 11 #[.val (.ref xa), .val (.ref xo)] [(.ref xo)])) _
  obtain ⟨T3, X3, e3, st3⟩ := getF X2 hx hZ hown (host := "") (Or.inl (hw _ (List.mem_of_getElem? (i := 65) rfl))) Via.refl e2 P2 (g := (mkF m 11 #[.val (.ref xa), .val (.ref xo)] [(.ref xo)])) rfl rfl (hb hby own_d12_11)
  refine own_go st3 ?_
  show own_Goes p e below (T3.setTop (mkF m 14 #[.val (.ref xa), .val (.ref xo)] [(.ref xp)])) _
  refine own_go (fun t_ k_ => XS.aloadN X3.here hx rfl (hb hby own_d12_14) rfl rfl k_) ?_
  show own_Goes p e below (T3.setTop (mkF m 15 #[.val (.ref xa), .val (.ref xo)] [(.ref xa), (.ref xp)])) _
  obtain ⟨T4, X4, e4, st4⟩ := getF X3 hx hZ hown (host := "") (Or.inl (hw _ (List.mem_of_getElem? (i := 65) rfl))) Via.refl e3 P1 (g := (mkF m 15 #[.val (.ref xa), .val (.ref xo)] [(.ref xa), (.ref xp)])) rfl rfl (hb hby own_d12_15)
  refine own_go st4 ?_
  show own_Goes p e below (T4.setTop (mkF m 18 #[.val (.ref xa), .val (.ref xo)] [(.ref xp), (.ref xp)])) _
  refine own_go (fun t_ k_ => Jvm.RoadKit.acmp (g := (mkF m 18 #[.val (.ref xa), .val (.ref xo)] [(.ref xp), (.ref xp)])) X4 hx rfl rfl rfl (pc0 := 18) (pc' := 21) (same := true) rfl (hb hby own_d12_18) rfl (decide_eq_true rfl) (by decide) (by decide) k_) ?_
  show own_Goes p e below (T4.setTop (mkF m 21 #[.val (.ref xa), .val (.ref xo)] [])) _
  refine own_go (fun t_ k_ => XS.iconst X4.here hx rfl (hb hby own_d12_21) k_) ?_
  show own_Goes p e below (T4.setTop (mkF m 22 #[.val (.ref xa), .val (.ref xo)] [(.int (1 : Int32))])) _
  refine own_go (fun t_ k_ => XS.goto X4.here hx rfl (pc0 := 22) (pc' := 26) rfl (hb hby own_d12_22) (by decide) (by decide) k_) ?_
  show own_Goes p e below (T4.setTop (mkF m 26 #[.val (.ref xa), .val (.ref xo)] [(.int (1 : Int32))])) _
  refine own_endN X4 (v := (some (.int (1 : Int32)))) (fun h => by rw [hret] at h; cases h) hlk (by decide) (by decide) ?_ (fun fs hr => retOut X4 hx hret rfl (Or.inl ⟨rfl, Or.inr (Or.inl rfl), _, rfl⟩) (hb hby own_d12_26) hr)
  show Q_own_eqT Z xa xo xp h0 n0 _ T4.heap _
  rw [e4]
  exact ⟨N0, rfl, rfl⟩
theorem own_ef_own_eqF (m : MethodId) (xa : Addr) (xo : Addr) : entryFrame m #[(.ref xa), (.ref xo)] 2 = mkF m 0 #[.val (.ref xa), .val (.ref xo)] [] := by first | (simp [entryFrame, mkF, argsToLocals, Value.category]; done) | rfl
def Q_own_eqF (Z : State) (xa : Addr) (xo : Addr) (xp : Addr) (xq : Addr) (h0 : Heap) (n0 : Nat) (v : Option Value) (h : Heap) (L : List Loc) : Prop := Fr n0 L ∧ h = h0 ∧ v = some (.int (0 : Int32))
set_option maxRecDepth 65536 in
set_option maxHeartbeats 40000000 in
theorem own_eqF (l : Launch) (Z : State) (a0 : Array Value) (hw : ∀ d ∈ tables_1, d.before a0 Z = true) (ws : List Jvm.Cond) (xa : Addr) (xo : Addr) (xp : Addr) (xq : Addr) (h0 : Heap) (n0 : Nat) (O0 : Old Z n0 h0) (P0 : Exa Z h0 xo "com/example/breach_or_proof/breachorproof/Name") (P1 : Fld Z h0 xa "com/example/breach_or_proof/breachorproof/Name" "symbol" "Lcom/example/breach_or_proof/breachorproof/NameSymbol;" (.ref xp)) (P2 : Fld Z h0 xo "com/example/breach_or_proof/breachorproof/Name" "symbol" "Lcom/example/breach_or_proof/breachorproof/NameSymbol;" (.ref xq)) (P3 : ¬ xq = xp) :
    MetFree l (⟨"com/example/breach_or_proof/breachorproof/Name", "equals", "(Ljava/lang/Object;)Z"⟩ : MethodName) (head1 (Jvm.Cond.code (⟨"com/example/breach_or_proof/breachorproof/Name", "equals", "(Ljava/lang/Object;)Z"⟩ : MethodName) prog_20_method_6_code 2 (some .boolean) :: ws) ({ frames := 0, cells := 0, slots := 0, locals := 0 } : Room)) (fun as_ U_ => as_ = #[(.ref xa), (.ref xo)] ∧ Z.Warmed39 U_.vm ∧ U_.heap = h0) (fun _ _ _ _ _ => True) (fun _ U_ o_ U2_ => ∃ v_ L_, o_ = .returned v_ ∧ Q_own_eqF Z xa xo xp xq h0 n0 v_ U2_.heap L_ ∧ FrameEnd U_ o_ U2_ L_ ({ frames := 0, cells := 0, slots := 0, locals := 0 } : Room).cells ({ frames := 0, cells := 0, slots := 0, locals := 0 } : Room).slots) := by
  refine MetFree.of_bodySF (plainFor_of_name own_pn_com_example_breach_or_proof_breachorproof_Name) hisR ?_
  intro p e s m args below meth c s₁ Bd hml0 hP hK
  obtain ⟨rfl, hZ, hh⟩ := hP
  have hx := Bd.exec
  have hby := Bd.bytes
  have hml : c.maxLocals = 2 := hml0
  have hown : s.vm.findClass "com/example/breach_or_proof/breachorproof/Name" = some m.cls := findClass_of_methodNamed Bd.named
  have hnm := (name_of_methodNamed Bd.named Bd.method).1
  have hlk : meth.locks = false := Bd.notSynchronized
  have hret := Bd.returns
  have X0 : Stand p l e ({ frames := 0, cells := 0, slots := 0, locals := 0 } : Room) s m #[(.ref xa), (.ref xo)] below meth c s₁ [] 0 0 := Stand.of_body Bd
  have e0 : s₁.heap = h0 := by rw [← hh, Bd.state]; rfl
  have N0 := Fr.nil n0
  have z0 : Z.heap.size = n0 := O0.1
  have z1 : n0 ≤ h0.size := z0 ▸ O0.2.1
  show own_Goes p e below (s₁.setTop (entryFrame m #[(.ref xa), (.ref xo)] 2)) (own_PostN s (Q_own_eqF Z xa xo xp xq h0 n0) ({ frames := 0, cells := 0, slots := 0, locals := 0 } : Room).cells ({ frames := 0, cells := 0, slots := 0, locals := 0 } : Room).slots)
  refine own_cast (own_ef_own_eqF m xa xo) ?_
  show own_Goes p e below (s₁.setTop (mkF m 0 #[.val (.ref xa), .val (.ref xo)] [])) _
  have ltP0 : xo < h0.size := P0.lt
  refine own_go (fun t_ k_ => XS.aloadN X0.here hx rfl (hb hby own_d12_0) rfl rfl k_) ?_
  show own_Goes p e below (s₁.setTop (mkF m 1 #[.val (.ref xa), .val (.ref xo)] [(.ref xo)])) _
  obtain ⟨T1, X1, e1, st1⟩ := instY X0 hx hZ hown (hw _ (List.mem_of_getElem? (i := 85) rfl)) e0 (Ins.self P0) (g := (mkF m 1 #[.val (.ref xa), .val (.ref xo)] [(.ref xo)])) rfl rfl (hb hby own_d12_1)
  refine own_go st1 ?_
  show own_Goes p e below (T1.setTop (mkF m 4 #[.val (.ref xa), .val (.ref xo)] [(.int (1 : Int32))])) _
  refine own_go (fun t_ k_ => XS.ifNo X1.here hx rfl (hb hby own_d12_4) rfl ((if0 _ _).trans (feq (show ¬ ((1 : Int32) = (0 : Int32)) from by decide)).1) k_) ?_
  show own_Goes p e below (T1.setTop (mkF m 7 #[.val (.ref xa), .val (.ref xo)] [])) _
  refine own_go (fun t_ k_ => XS.aloadN X1.here hx rfl (hb hby own_d12_7) rfl rfl k_) ?_
  show own_Goes p e below (T1.setTop (mkF m 8 #[.val (.ref xa), .val (.ref xo)] [(.ref xo)])) _
  obtain ⟨T2, X2, e2, st2⟩ := castY X1 hx hZ hown (hw _ (List.mem_of_getElem? (i := 85) rfl)) e1 (Ins.self P0) (g := (mkF m 8 #[.val (.ref xa), .val (.ref xo)] [(.ref xo)])) rfl rfl (hb hby own_d12_8)
  refine own_go st2 ?_
  show own_Goes p e below (T2.setTop (mkF m 11 #[.val (.ref xa), .val (.ref xo)] [(.ref xo)])) _
  obtain ⟨T3, X3, e3, st3⟩ := getF X2 hx hZ hown (host := "") (Or.inl (hw _ (List.mem_of_getElem? (i := 65) rfl))) Via.refl e2 P2 (g := (mkF m 11 #[.val (.ref xa), .val (.ref xo)] [(.ref xo)])) rfl rfl (hb hby own_d12_11)
  refine own_go st3 ?_
  show own_Goes p e below (T3.setTop (mkF m 14 #[.val (.ref xa), .val (.ref xo)] [(.ref xq)])) _
  refine own_go (fun t_ k_ => XS.aloadN X3.here hx rfl (hb hby own_d12_14) rfl rfl k_) ?_
  show own_Goes p e below (T3.setTop (mkF m 15 #[.val (.ref xa), .val (.ref xo)] [(.ref xa), (.ref xq)])) _
  obtain ⟨T4, X4, e4, st4⟩ := getF X3 hx hZ hown (host := "") (Or.inl (hw _ (List.mem_of_getElem? (i := 65) rfl))) Via.refl e3 P1 (g := (mkF m 15 #[.val (.ref xa), .val (.ref xo)] [(.ref xa), (.ref xq)])) rfl rfl (hb hby own_d12_15)
  refine own_go st4 ?_
  show own_Goes p e below (T4.setTop (mkF m 18 #[.val (.ref xa), .val (.ref xo)] [(.ref xp), (.ref xq)])) _
  refine own_go (fun t_ k_ => Jvm.RoadKit.acmp (g := (mkF m 18 #[.val (.ref xa), .val (.ref xo)] [(.ref xp), (.ref xq)])) X4 hx rfl rfl rfl (pc0 := 18) (pc' := 25) (same := false) rfl (hb hby own_d12_18) rfl (decide_eq_false fun q => (show ¬ (xq = xp) from P3) (Value.ref.inj q)) (by decide) (by decide) k_) ?_
  show own_Goes p e below (T4.setTop (mkF m 25 #[.val (.ref xa), .val (.ref xo)] [])) _
  refine own_go (fun t_ k_ => XS.iconst X4.here hx rfl (hb hby own_d12_25) k_) ?_
  show own_Goes p e below (T4.setTop (mkF m 26 #[.val (.ref xa), .val (.ref xo)] [(.int (0 : Int32))])) _
  refine own_endN X4 (v := (some (.int (0 : Int32)))) (fun h => by rw [hret] at h; cases h) hlk (by decide) (by decide) ?_ (fun fs hr => retOut X4 hx hret rfl (Or.inl ⟨rfl, Or.inr (Or.inl rfl), _, rfl⟩) (hb hby own_d12_26) hr)
  show Q_own_eqF Z xa xo xp xq h0 n0 _ T4.heap _
  rw [e4]
  exact ⟨N0, rfl, rfl⟩
theorem own_pd_4 : parseMethodDescriptor "([C)V" = some ⟨[(.array .char)], none⟩ := by decide +kernel
theorem own_pd_5 : parseMethodDescriptor "(Ljava/lang/String;Z)V" = some ⟨[(.object "java/lang/String"), .boolean], none⟩ := by decide +kernel
abbrev own_m6 : MethodName := ⟨"com/example/breach_or_proof/breachorproof/NameSymbol", "<init>", "(Ljava/lang/String;Z)V"⟩
theorem own_pd_7 : parseMethodDescriptor "(Lcom/example/breach_or_proof/breachorproof/NameSymbol;)V" = some ⟨[(.object "com/example/breach_or_proof/breachorproof/NameSymbol")], none⟩ := by decide +kernel
abbrev own_m8 : MethodName := ⟨"com/example/breach_or_proof/breachorproof/Name", "<init>", "(Lcom/example/breach_or_proof/breachorproof/NameSymbol;)V"⟩
theorem own_pd_9 : parseMethodDescriptor "(Ljava/lang/String;)V" = some ⟨[(.object "java/lang/String")], none⟩ := by decide +kernel
abbrev own_m10 : MethodName := ⟨"com/example/breach_or_proof/breachorproof/Variable", "<init>", "(Ljava/lang/String;)V"⟩
theorem own_pd_11 : parseMethodDescriptor "(Ljava/lang/Object;)Z" = some ⟨[(.object "java/lang/Object")], some .boolean⟩ := by decide +kernel
abbrev own_m12 : MethodName := ⟨"com/example/breach_or_proof/breachorproof/Name", "equals", "(Ljava/lang/Object;)Z"⟩
theorem own_pn_com_example_breach_or_proof_breachorproof_NameEqualsPinLaw : plainName "com/example/breach_or_proof/breachorproof/NameEqualsPinLaw" = true := by first | (simp [plainName, overriddenIn]; done) | decide +kernel
theorem own_ef_rm0 (m : MethodId) (x0 : Int32) (x1 : Int32) (x2 : Int32) (x3 : Int32) (x4 : Int32) (x5 : Int32) : entryFrame m #[(.int x0), (.int x1), (.int x2), (.int x3), (.int x4), (.int x5)] maxLocals = mkF m 0 #[.val (.int x0), .val (.int x1), .val (.int x2), .val (.int x3), .val (.int x4), .val (.int x5), .unset, .unset, .unset, .unset, .unset, .unset, .unset, .unset, .unset, .unset, .unset, .unset, .unset, .unset, .unset, .unset, .unset, .unset, .unset] [] := by first | (simp [entryFrame, mkF, argsToLocals, Value.category, maxLocals]; done) | rfl
def Q_rm0 (Z : State) (x0 : Int32) (x1 : Int32) (x2 : Int32) (x3 : Int32) (x4 : Int32) (x5 : Int32) (gz : Int32) (h0 : Heap) (n0 : Nat) (v : Option Value) (h : Heap) (L : List Loc) : Prop := Fr n0 L ∧ True ∧ v = some (.int (1 : Int32))
set_option maxRecDepth 65536 in
set_option maxHeartbeats 40000000 in
theorem rm0 (l : Launch) (Z : State) (a0 : Array Value) (hw : ∀ d ∈ tables_1, d.before a0 Z = true) (ws : List Jvm.Cond) (x0 : Int32) (x1 : Int32) (x2 : Int32) (x3 : Int32) (x4 : Int32) (x5 : Int32) (h0 : Heap) (n0 : Nat) (O0 : Old Z n0 h0) (gz : Int32) (G : GG Z gz) :
    MetFree l x (head1 (Jvm.Cond.code x code maxLocals ret :: ws) room_1) (fun as_ U_ => as_ = #[(.int x0), (.int x1), (.int x2), (.int x3), (.int x4), (.int x5)] ∧ Z.Warmed39 U_.vm ∧ U_.heap = h0) (fun _ _ _ _ _ => True) (fun _ U_ o_ U2_ => ∃ v_ L_, o_ = .returned v_ ∧ Q_rm0 Z x0 x1 x2 x3 x4 x5 gz h0 n0 v_ U2_.heap L_ ∧ ReturnedEndW U_ o_ U2_ L_ room_1.cells room_1.slots) := by
  refine MetFree.of_bodySF (plainFor_of_name own_pn_com_example_breach_or_proof_breachorproof_NameEqualsPinLaw) hisR ?_
  intro p e s m args below meth c s₁ Bd hml0 hP hK
  obtain ⟨rfl, hZ, hh⟩ := hP
  have hx := Bd.exec
  have hby := Bd.bytes
  have hml : c.maxLocals = 25 := hml0
  have hown : s.vm.findClass "com/example/breach_or_proof/breachorproof/NameEqualsPinLaw" = some m.cls := findClass_of_methodNamed Bd.named
  have hnm := (name_of_methodNamed Bd.named Bd.method).1
  have hlk : meth.locks = false := Bd.notSynchronized
  have hret := Bd.returns
  have X0 : Stand p l e room_1 s m #[(.int x0), (.int x1), (.int x2), (.int x3), (.int x4), (.int x5)] below meth c s₁ [] 0 0 := Stand.of_body Bd
  have e0 : s₁.heap = h0 := by rw [← hh, Bd.state]; rfl
  have N0 := Fr.nil n0
  have z0 : Z.heap.size = n0 := O0.1
  have z1 : n0 ≤ h0.size := z0 ▸ O0.2.1
  have hS0 : s.Since s.vm 0 := (State.WarmedH.refl s).since 0
  have hk0 : 0 ≤ h0.size := Nat.zero_le _
  replace X0 : Stand p l e room_1 (s.setVm s.vm) m #[(.int x0), (.int x1), (.int x2), (.int x3), (.int x4), (.int x5)] below meth c s₁ [] 0 0 := X0
  show own_Goes p e below (s₁.setTop (entryFrame m #[(.int x0), (.int x1), (.int x2), (.int x3), (.int x4), (.int x5)] maxLocals)) (own_PostW s (Q_rm0 Z x0 x1 x2 x3 x4 x5 gz h0 n0) room_1.cells room_1.slots)
  refine own_cast (own_ef_rm0 m x0 x1 x2 x3 x4 x5) ?_
  show own_Goes p e below (s₁.setTop (mkF m 0 #[.val (.int x0), .val (.int x1), .val (.int x2), .val (.int x3), .val (.int x4), .val (.int x5), .unset, .unset, .unset, .unset, .unset, .unset, .unset, .unset, .unset, .unset, .unset, .unset, .unset, .unset, .unset, .unset, .unset, .unset, .unset] [])) _
  obtain ⟨G0, G1⟩ := id G
  refine own_go (fun t_ k_ => XS.iload X0.here hx rfl (hb hby at_0) rfl k_) ?_
  show own_Goes p e below (s₁.setTop (mkF m 2 #[.val (.int x0), .val (.int x1), .val (.int x2), .val (.int x3), .val (.int x4), .val (.int x5), .unset, .unset, .unset, .unset, .unset, .unset, .unset, .unset, .unset, .unset, .unset, .unset, .unset, .unset, .unset, .unset, .unset, .unset, .unset] [(.int x5)])) _
  refine own_go (fun t_ k_ => XS.iconst X0.here hx rfl (hb hby at_2) k_) ?_
  show own_Goes p e below (s₁.setTop (mkF m 3 #[.val (.int x0), .val (.int x1), .val (.int x2), .val (.int x3), .val (.int x4), .val (.int x5), .unset, .unset, .unset, .unset, .unset, .unset, .unset, .unset, .unset, .unset, .unset, .unset, .unset, .unset, .unset, .unset, .unset, .unset, .unset] [(.int (1 : Int32)), (.int x5)])) _
  refine own_go (fun t_ k_ => XS.iand X0.here hx rfl (hb hby at_3) rfl k_) ?_
  show own_Goes p e below (s₁.setTop (mkF m 4 #[.val (.int x0), .val (.int x1), .val (.int x2), .val (.int x3), .val (.int x4), .val (.int x5), .unset, .unset, .unset, .unset, .unset, .unset, .unset, .unset, .unset, .unset, .unset, .unset, .unset, .unset, .unset, .unset, .unset, .unset, .unset] [(.int (x5 &&& (1 : Int32)))])) _
  have Jz1 : ∀ z1 : Int32, (z1 = 1 ∧ ¬ ((x5 &&& (1 : Int32)) = (0 : Int32))) ∨ (z1 = 0 ∧ ((x5 &&& (1 : Int32)) = (0 : Int32))) → own_Goes p e below (s₁.setTop (mkF m 12 #[.val (.int x0), .val (.int x1), .val (.int x2), .val (.int x3), .val (.int x4), .val (.int x5), .unset, .unset, .unset, .unset, .unset, .unset, .unset, .unset, .unset, .unset, .unset, .unset, .unset, .unset, .unset, .unset, .unset, .unset, .unset] [(.int z1)])) (own_PostW s (Q_rm0 Z x0 x1 x2 x3 x4 x5 gz h0 n0) room_1.cells room_1.slots) := by
    intro z1 hbz1
    show own_Goes p e below (s₁.setTop (mkF m 12 #[.val (.int x0), .val (.int x1), .val (.int x2), .val (.int x3), .val (.int x4), .val (.int x5), .unset, .unset, .unset, .unset, .unset, .unset, .unset, .unset, .unset, .unset, .unset, .unset, .unset, .unset, .unset, .unset, .unset, .unset, .unset] [(.int z1)])) _
    refine own_go (fun t_ k_ => XS.istore X0.here hx rfl (hb hby at_12) rfl (l' := #[.val (.int x0), .val (.int x1), .val (.int x2), .val (.int x3), .val (.int x4), .val (.int x5), .val (.int z1), .unset, .unset, .unset, .unset, .unset, .unset, .unset, .unset, .unset, .unset, .unset, .unset, .unset, .unset, .unset, .unset, .unset, .unset]) rfl k_) ?_
    show own_Goes p e below (s₁.setTop (mkF m 14 #[.val (.int x0), .val (.int x1), .val (.int x2), .val (.int x3), .val (.int x4), .val (.int x5), .val (.int z1), .unset, .unset, .unset, .unset, .unset, .unset, .unset, .unset, .unset, .unset, .unset, .unset, .unset, .unset, .unset, .unset, .unset, .unset] [])) _
    refine own_go (fun t_ k_ => XS.iload X0.here hx rfl (hb hby at_14) rfl k_) ?_
    show own_Goes p e below (s₁.setTop (mkF m 16 #[.val (.int x0), .val (.int x1), .val (.int x2), .val (.int x3), .val (.int x4), .val (.int x5), .val (.int z1), .unset, .unset, .unset, .unset, .unset, .unset, .unset, .unset, .unset, .unset, .unset, .unset, .unset, .unset, .unset, .unset, .unset, .unset] [(.int x5)])) _
    refine own_go (fun t_ k_ => XS.iconst X0.here hx rfl (hb hby at_16) k_) ?_
    show own_Goes p e below (s₁.setTop (mkF m 17 #[.val (.int x0), .val (.int x1), .val (.int x2), .val (.int x3), .val (.int x4), .val (.int x5), .val (.int z1), .unset, .unset, .unset, .unset, .unset, .unset, .unset, .unset, .unset, .unset, .unset, .unset, .unset, .unset, .unset, .unset, .unset, .unset] [(.int (2 : Int32)), (.int x5)])) _
    refine own_go (fun t_ k_ => XS.iand X0.here hx rfl (hb hby at_17) rfl k_) ?_
    show own_Goes p e below (s₁.setTop (mkF m 18 #[.val (.int x0), .val (.int x1), .val (.int x2), .val (.int x3), .val (.int x4), .val (.int x5), .val (.int z1), .unset, .unset, .unset, .unset, .unset, .unset, .unset, .unset, .unset, .unset, .unset, .unset, .unset, .unset, .unset, .unset, .unset, .unset] [(.int (x5 &&& (2 : Int32)))])) _
    have Jz2 : ∀ z2 : Int32, (z2 = 1 ∧ ¬ ((x5 &&& (2 : Int32)) = (0 : Int32))) ∨ (z2 = 0 ∧ ((x5 &&& (2 : Int32)) = (0 : Int32))) → own_Goes p e below (s₁.setTop (mkF m 26 #[.val (.int x0), .val (.int x1), .val (.int x2), .val (.int x3), .val (.int x4), .val (.int x5), .val (.int z1), .unset, .unset, .unset, .unset, .unset, .unset, .unset, .unset, .unset, .unset, .unset, .unset, .unset, .unset, .unset, .unset, .unset, .unset] [(.int z2)])) (own_PostW s (Q_rm0 Z x0 x1 x2 x3 x4 x5 gz h0 n0) room_1.cells room_1.slots) := by
      intro z2 hbz2
      show own_Goes p e below (s₁.setTop (mkF m 26 #[.val (.int x0), .val (.int x1), .val (.int x2), .val (.int x3), .val (.int x4), .val (.int x5), .val (.int z1), .unset, .unset, .unset, .unset, .unset, .unset, .unset, .unset, .unset, .unset, .unset, .unset, .unset, .unset, .unset, .unset, .unset, .unset] [(.int z2)])) _
      refine own_go (fun t_ k_ => XS.istore X0.here hx rfl (hb hby at_26) rfl (l' := #[.val (.int x0), .val (.int x1), .val (.int x2), .val (.int x3), .val (.int x4), .val (.int x5), .val (.int z1), .val (.int z2), .unset, .unset, .unset, .unset, .unset, .unset, .unset, .unset, .unset, .unset, .unset, .unset, .unset, .unset, .unset, .unset, .unset]) rfl k_) ?_
      show own_Goes p e below (s₁.setTop (mkF m 28 #[.val (.int x0), .val (.int x1), .val (.int x2), .val (.int x3), .val (.int x4), .val (.int x5), .val (.int z1), .val (.int z2), .unset, .unset, .unset, .unset, .unset, .unset, .unset, .unset, .unset, .unset, .unset, .unset, .unset, .unset, .unset, .unset, .unset] [])) _
      refine own_go (fun t_ k_ => XS.iload X0.here hx rfl (hb hby at_28) rfl k_) ?_
      show own_Goes p e below (s₁.setTop (mkF m 30 #[.val (.int x0), .val (.int x1), .val (.int x2), .val (.int x3), .val (.int x4), .val (.int x5), .val (.int z1), .val (.int z2), .unset, .unset, .unset, .unset, .unset, .unset, .unset, .unset, .unset, .unset, .unset, .unset, .unset, .unset, .unset, .unset, .unset] [(.int x5)])) _
      refine own_go (fun t_ k_ => XS.iconst X0.here hx rfl (hb hby at_30) k_) ?_
      show own_Goes p e below (s₁.setTop (mkF m 31 #[.val (.int x0), .val (.int x1), .val (.int x2), .val (.int x3), .val (.int x4), .val (.int x5), .val (.int z1), .val (.int z2), .unset, .unset, .unset, .unset, .unset, .unset, .unset, .unset, .unset, .unset, .unset, .unset, .unset, .unset, .unset, .unset, .unset] [(.int (4 : Int32)), (.int x5)])) _
      refine own_go (fun t_ k_ => XS.iand X0.here hx rfl (hb hby at_31) rfl k_) ?_
      show own_Goes p e below (s₁.setTop (mkF m 32 #[.val (.int x0), .val (.int x1), .val (.int x2), .val (.int x3), .val (.int x4), .val (.int x5), .val (.int z1), .val (.int z2), .unset, .unset, .unset, .unset, .unset, .unset, .unset, .unset, .unset, .unset, .unset, .unset, .unset, .unset, .unset, .unset, .unset] [(.int (x5 &&& (4 : Int32)))])) _
      have Jz3 : ∀ z3 : Int32, (z3 = 1 ∧ ¬ ((x5 &&& (4 : Int32)) = (0 : Int32))) ∨ (z3 = 0 ∧ ((x5 &&& (4 : Int32)) = (0 : Int32))) → own_Goes p e below (s₁.setTop (mkF m 40 #[.val (.int x0), .val (.int x1), .val (.int x2), .val (.int x3), .val (.int x4), .val (.int x5), .val (.int z1), .val (.int z2), .unset, .unset, .unset, .unset, .unset, .unset, .unset, .unset, .unset, .unset, .unset, .unset, .unset, .unset, .unset, .unset, .unset] [(.int z3)])) (own_PostW s (Q_rm0 Z x0 x1 x2 x3 x4 x5 gz h0 n0) room_1.cells room_1.slots) := by
        intro z3 hbz3
        show own_Goes p e below (s₁.setTop (mkF m 40 #[.val (.int x0), .val (.int x1), .val (.int x2), .val (.int x3), .val (.int x4), .val (.int x5), .val (.int z1), .val (.int z2), .unset, .unset, .unset, .unset, .unset, .unset, .unset, .unset, .unset, .unset, .unset, .unset, .unset, .unset, .unset, .unset, .unset] [(.int z3)])) _
        refine own_go (fun t_ k_ => XS.istore X0.here hx rfl (hb hby at_40) rfl (l' := #[.val (.int x0), .val (.int x1), .val (.int x2), .val (.int x3), .val (.int x4), .val (.int x5), .val (.int z1), .val (.int z2), .val (.int z3), .unset, .unset, .unset, .unset, .unset, .unset, .unset, .unset, .unset, .unset, .unset, .unset, .unset, .unset, .unset, .unset]) rfl k_) ?_
        show own_Goes p e below (s₁.setTop (mkF m 42 #[.val (.int x0), .val (.int x1), .val (.int x2), .val (.int x3), .val (.int x4), .val (.int x5), .val (.int z1), .val (.int z2), .val (.int z3), .unset, .unset, .unset, .unset, .unset, .unset, .unset, .unset, .unset, .unset, .unset, .unset, .unset, .unset, .unset, .unset] [])) _
        refine own_go (fun t_ k_ => XS.iconst X0.here hx rfl (hb hby at_42) k_) ?_
        show own_Goes p e below (s₁.setTop (mkF m 43 #[.val (.int x0), .val (.int x1), .val (.int x2), .val (.int x3), .val (.int x4), .val (.int x5), .val (.int z1), .val (.int z2), .val (.int z3), .unset, .unset, .unset, .unset, .unset, .unset, .unset, .unset, .unset, .unset, .unset, .unset, .unset, .unset, .unset, .unset] [(.int (2 : Int32))])) _
        obtain ⟨T4, h4, k4, X4, e4, E4, A4, st4⟩ := newP X0 hx hZ (hw _ (List.mem_of_getElem? (i := 0) rfl)) e0 (g := (mkF m 43 #[.val (.int x0), .val (.int x1), .val (.int x2), .val (.int x3), .val (.int x4), .val (.int x5), .val (.int z1), .val (.int z2), .val (.int z3), .unset, .unset, .unset, .unset, .unset, .unset, .unset, .unset, .unset, .unset, .unset, .unset, .unset, .unset, .unset, .unset] [(.int (2 : Int32))])) rfl (hb hby at_43) rfl (by decide) (cap := 2) (by decide) (by decide) (by decide) (by decide)
        obtain ⟨b4, g4⟩ : ∃ z, z = h0.size := ⟨_, rfl⟩
        rw [← g4] at A4 st4
        refine own_go st4 ?_
        have O5 := O0.ext E4
        have sz6 : h0.size ≤ h4.size := E4.1
        have hk7 := Nat.le_trans hk0 E4.1
        have l4 : b4 < h4.size := A4.lt
        have V4 : Arv Z h4 b4 k4 .char (2 : Int32) [(.int (0 : Int32)), (.int (0 : Int32))] (.int (0 : Int32)) := (Arv.new A4 (by decide)).pad (pad_rep [] (.int (0 : Int32)) 2)
        show own_Goes p e below (T4.setTop (mkF m 45 #[.val (.int x0), .val (.int x1), .val (.int x2), .val (.int x3), .val (.int x4), .val (.int x5), .val (.int z1), .val (.int z2), .val (.int z3), .unset, .unset, .unset, .unset, .unset, .unset, .unset, .unset, .unset, .unset, .unset, .unset, .unset, .unset, .unset, .unset] [(.ref b4)])) _
        refine own_go (fun t_ k_ => XS.astore X4.here hx rfl (hb hby at_45) rfl rfl (l' := #[.val (.int x0), .val (.int x1), .val (.int x2), .val (.int x3), .val (.int x4), .val (.int x5), .val (.int z1), .val (.int z2), .val (.int z3), .val (.ref b4), .unset, .unset, .unset, .unset, .unset, .unset, .unset, .unset, .unset, .unset, .unset, .unset, .unset, .unset, .unset]) rfl k_) ?_
        show own_Goes p e below (T4.setTop (mkF m 47 #[.val (.int x0), .val (.int x1), .val (.int x2), .val (.int x3), .val (.int x4), .val (.int x5), .val (.int z1), .val (.int z2), .val (.int z3), .val (.ref b4), .unset, .unset, .unset, .unset, .unset, .unset, .unset, .unset, .unset, .unset, .unset, .unset, .unset, .unset, .unset] [])) _
        refine own_go (fun t_ k_ => XS.aload X4.here hx rfl (hb hby at_47) rfl rfl k_) ?_
        show own_Goes p e below (T4.setTop (mkF m 49 #[.val (.int x0), .val (.int x1), .val (.int x2), .val (.int x3), .val (.int x4), .val (.int x5), .val (.int z1), .val (.int z2), .val (.int z3), .val (.ref b4), .unset, .unset, .unset, .unset, .unset, .unset, .unset, .unset, .unset, .unset, .unset, .unset, .unset, .unset, .unset] [(.ref b4)])) _
        refine own_go (fun t_ k_ => XS.iconst X4.here hx rfl (hb hby at_49) k_) ?_
        show own_Goes p e below (T4.setTop (mkF m 50 #[.val (.int x0), .val (.int x1), .val (.int x2), .val (.int x3), .val (.int x4), .val (.int x5), .val (.int z1), .val (.int z2), .val (.int z3), .val (.ref b4), .unset, .unset, .unset, .unset, .unset, .unset, .unset, .unset, .unset, .unset, .unset, .unset, .unset, .unset, .unset] [(.int (0 : Int32)), (.ref b4)])) _
        refine own_go (fun t_ k_ => XS.iloadN X4.here hx rfl (hb hby at_50) rfl k_) ?_
        show own_Goes p e below (T4.setTop (mkF m 51 #[.val (.int x0), .val (.int x1), .val (.int x2), .val (.int x3), .val (.int x4), .val (.int x5), .val (.int z1), .val (.int z2), .val (.int z3), .val (.ref b4), .unset, .unset, .unset, .unset, .unset, .unset, .unset, .unset, .unset, .unset, .unset, .unset, .unset, .unset, .unset] [(.int x1), (.int (0 : Int32)), (.ref b4)])) _
        refine own_go (fun t_ k_ => XS.sipush X4.here hx rfl (hb hby at_51) k_) ?_
        show own_Goes p e below (T4.setTop (mkF m 54 #[.val (.int x0), .val (.int x1), .val (.int x2), .val (.int x3), .val (.int x4), .val (.int x5), .val (.int z1), .val (.int z2), .val (.int z3), .val (.ref b4), .unset, .unset, .unset, .unset, .unset, .unset, .unset, .unset, .unset, .unset, .unset, .unset, .unset, .unset, .unset] [(.int (255 : Int32)), (.int x1), (.int (0 : Int32)), (.ref b4)])) _
        refine own_go (fun t_ k_ => XS.iand X4.here hx rfl (hb hby at_54) rfl k_) ?_
        show own_Goes p e below (T4.setTop (mkF m 55 #[.val (.int x0), .val (.int x1), .val (.int x2), .val (.int x3), .val (.int x4), .val (.int x5), .val (.int z1), .val (.int z2), .val (.int z3), .val (.ref b4), .unset, .unset, .unset, .unset, .unset, .unset, .unset, .unset, .unset, .unset, .unset, .unset, .unset, .unset, .unset] [(.int (x1 &&& (255 : Int32))), (.int (0 : Int32)), (.ref b4)])) _
        refine own_go (fun t_ k_ => XS.i2c X4.here hx rfl (hb hby at_55) rfl k_) ?_
        show own_Goes p e below (T4.setTop (mkF m 56 #[.val (.int x0), .val (.int x1), .val (.int x2), .val (.int x3), .val (.int x4), .val (.int x5), .val (.int z1), .val (.int z2), .val (.int z3), .val (.ref b4), .unset, .unset, .unset, .unset, .unset, .unset, .unset, .unset, .unset, .unset, .unset, .unset, .unset, .unset, .unset] [(.int ((x1 &&& (255 : Int32)).toUInt32.toUInt16.toUInt32.toInt32)), (.int (0 : Int32)), (.ref b4)])) _
        rw [i2c_mask]
        show own_Goes p e below (T4.setTop (mkF m 56 #[.val (.int x0), .val (.int x1), .val (.int x2), .val (.int x3), .val (.int x4), .val (.int x5), .val (.int z1), .val (.int z2), .val (.int z3), .val (.ref b4), .unset, .unset, .unset, .unset, .unset, .unset, .unset, .unset, .unset, .unset, .unset, .unset, .unset, .unset, .unset] [(.int (x1 &&& (255 : Int32))), (.int (0 : Int32)), (.ref b4)])) _
        obtain ⟨clu8, Aru8, qu8, Szu8, Ngu8, Hsu8, Gsu8⟩ := id V4
        have inu8 : ¬ ((0 : Int32) < 0 ∨ clu8.slots.size ≤ ((0 : Int32)).toNatClampNeg) := inb_of Szu8 ⟨by decide, by decide⟩
        obtain ⟨T9, h9, X9, e9, W9, st9⟩ := stC X4 hx hZ e4 Aru8 (j := (0 : Int32)) inu8 (g := (mkF m 56 #[.val (.int x0), .val (.int x1), .val (.int x2), .val (.int x3), .val (.int x4), .val (.int x5), .val (.int z1), .val (.int z2), .val (.int z3), .val (.ref b4), .unset, .unset, .unset, .unset, .unset, .unset, .unset, .unset, .unset, .unset, .unset, .unset, .unset, .unset, .unset] [(.int (x1 &&& (255 : Int32))), (.int (0 : Int32)), (.ref b4)])) rfl rfl (hb hby at_56)
        refine own_go st9 ?_
        have V9 := Arv.set Aru8 qu8 Szu8 Ngu8 Hsu8 Gsu8 (fits_nar_char _) W9 0 rfl (Nat.le_of_ble_eq_true rfl)
        rw [own_narM] at V9
        have O10 := O5.wr W9 (show n0 ≤ b4 by omega)
        have sz11 : h9.size = h4.size := Wr.size W9
        have hk12 := Nat.le_trans hk7 (Nat.le_of_eq (Wr.size W9).symm)
        have N9 := Fr.snoc X9 N0 (show n0 ≤ b4 by omega)
        have V9 : Arv Z h9 b4 k4 .char (2 : Int32) [(.int (x1 &&& (255 : Int32))), (.int (0 : Int32))] (.int (0 : Int32)) := V9
        show own_Goes p e below (T9.setTop (mkF m 57 #[.val (.int x0), .val (.int x1), .val (.int x2), .val (.int x3), .val (.int x4), .val (.int x5), .val (.int z1), .val (.int z2), .val (.int z3), .val (.ref b4), .unset, .unset, .unset, .unset, .unset, .unset, .unset, .unset, .unset, .unset, .unset, .unset, .unset, .unset, .unset] [])) _
        refine own_go (fun t_ k_ => XS.aload X9.here hx rfl (hb hby at_57) rfl rfl k_) ?_
        show own_Goes p e below (T9.setTop (mkF m 59 #[.val (.int x0), .val (.int x1), .val (.int x2), .val (.int x3), .val (.int x4), .val (.int x5), .val (.int z1), .val (.int z2), .val (.int z3), .val (.ref b4), .unset, .unset, .unset, .unset, .unset, .unset, .unset, .unset, .unset, .unset, .unset, .unset, .unset, .unset, .unset] [(.ref b4)])) _
        refine own_go (fun t_ k_ => XS.iconst X9.here hx rfl (hb hby at_59) k_) ?_
        show own_Goes p e below (T9.setTop (mkF m 60 #[.val (.int x0), .val (.int x1), .val (.int x2), .val (.int x3), .val (.int x4), .val (.int x5), .val (.int z1), .val (.int z2), .val (.int z3), .val (.ref b4), .unset, .unset, .unset, .unset, .unset, .unset, .unset, .unset, .unset, .unset, .unset, .unset, .unset, .unset, .unset] [(.int (1 : Int32)), (.ref b4)])) _
        refine own_go (fun t_ k_ => XS.iloadN X9.here hx rfl (hb hby at_60) rfl k_) ?_
        show own_Goes p e below (T9.setTop (mkF m 61 #[.val (.int x0), .val (.int x1), .val (.int x2), .val (.int x3), .val (.int x4), .val (.int x5), .val (.int z1), .val (.int z2), .val (.int z3), .val (.ref b4), .unset, .unset, .unset, .unset, .unset, .unset, .unset, .unset, .unset, .unset, .unset, .unset, .unset, .unset, .unset] [(.int x2), (.int (1 : Int32)), (.ref b4)])) _
        refine own_go (fun t_ k_ => XS.sipush X9.here hx rfl (hb hby at_61) k_) ?_
        show own_Goes p e below (T9.setTop (mkF m 64 #[.val (.int x0), .val (.int x1), .val (.int x2), .val (.int x3), .val (.int x4), .val (.int x5), .val (.int z1), .val (.int z2), .val (.int z3), .val (.ref b4), .unset, .unset, .unset, .unset, .unset, .unset, .unset, .unset, .unset, .unset, .unset, .unset, .unset, .unset, .unset] [(.int (255 : Int32)), (.int x2), (.int (1 : Int32)), (.ref b4)])) _
        refine own_go (fun t_ k_ => XS.iand X9.here hx rfl (hb hby at_64) rfl k_) ?_
        show own_Goes p e below (T9.setTop (mkF m 65 #[.val (.int x0), .val (.int x1), .val (.int x2), .val (.int x3), .val (.int x4), .val (.int x5), .val (.int z1), .val (.int z2), .val (.int z3), .val (.ref b4), .unset, .unset, .unset, .unset, .unset, .unset, .unset, .unset, .unset, .unset, .unset, .unset, .unset, .unset, .unset] [(.int (x2 &&& (255 : Int32))), (.int (1 : Int32)), (.ref b4)])) _
        refine own_go (fun t_ k_ => XS.i2c X9.here hx rfl (hb hby at_65) rfl k_) ?_
        show own_Goes p e below (T9.setTop (mkF m 66 #[.val (.int x0), .val (.int x1), .val (.int x2), .val (.int x3), .val (.int x4), .val (.int x5), .val (.int z1), .val (.int z2), .val (.int z3), .val (.ref b4), .unset, .unset, .unset, .unset, .unset, .unset, .unset, .unset, .unset, .unset, .unset, .unset, .unset, .unset, .unset] [(.int ((x2 &&& (255 : Int32)).toUInt32.toUInt16.toUInt32.toInt32)), (.int (1 : Int32)), (.ref b4)])) _
        rw [i2c_mask]
        show own_Goes p e below (T9.setTop (mkF m 66 #[.val (.int x0), .val (.int x1), .val (.int x2), .val (.int x3), .val (.int x4), .val (.int x5), .val (.int z1), .val (.int z2), .val (.int z3), .val (.ref b4), .unset, .unset, .unset, .unset, .unset, .unset, .unset, .unset, .unset, .unset, .unset, .unset, .unset, .unset, .unset] [(.int (x2 &&& (255 : Int32))), (.int (1 : Int32)), (.ref b4)])) _
        obtain ⟨clu13, Aru13, qu13, Szu13, Ngu13, Hsu13, Gsu13⟩ := id V9
        have inu13 : ¬ ((1 : Int32) < 0 ∨ clu13.slots.size ≤ ((1 : Int32)).toNatClampNeg) := inb_of Szu13 ⟨by decide, by decide⟩
        obtain ⟨T14, h14, X14, e14, W14, st14⟩ := stC X9 hx hZ e9 Aru13 (j := (1 : Int32)) inu13 (g := (mkF m 66 #[.val (.int x0), .val (.int x1), .val (.int x2), .val (.int x3), .val (.int x4), .val (.int x5), .val (.int z1), .val (.int z2), .val (.int z3), .val (.ref b4), .unset, .unset, .unset, .unset, .unset, .unset, .unset, .unset, .unset, .unset, .unset, .unset, .unset, .unset, .unset] [(.int (x2 &&& (255 : Int32))), (.int (1 : Int32)), (.ref b4)])) rfl rfl (hb hby at_66)
        refine own_go st14 ?_
        have V14 := Arv.set Aru13 qu13 Szu13 Ngu13 Hsu13 Gsu13 (fits_nar_char _) W14 1 rfl (Nat.le_of_ble_eq_true rfl)
        rw [own_narM] at V14
        have O15 := O10.wr W14 (show n0 ≤ b4 by omega)
        have sz16 : h14.size = h9.size := Wr.size W14
        have hk17 := Nat.le_trans hk12 (Nat.le_of_eq (Wr.size W14).symm)
        have N14 := Fr.snoc X14 N9 (show n0 ≤ b4 by omega)
        have V14 : Arv Z h14 b4 k4 .char (2 : Int32) [(.int (x1 &&& (255 : Int32))), (.int (x2 &&& (255 : Int32)))] (.int (0 : Int32)) := V14
        show own_Goes p e below (T14.setTop (mkF m 67 #[.val (.int x0), .val (.int x1), .val (.int x2), .val (.int x3), .val (.int x4), .val (.int x5), .val (.int z1), .val (.int z2), .val (.int z3), .val (.ref b4), .unset, .unset, .unset, .unset, .unset, .unset, .unset, .unset, .unset, .unset, .unset, .unset, .unset, .unset, .unset] [])) _
        refine own_go (fun t_ k_ => XS.iconst X14.here hx rfl (hb hby at_67) k_) ?_
        show own_Goes p e below (T14.setTop (mkF m 68 #[.val (.int x0), .val (.int x1), .val (.int x2), .val (.int x3), .val (.int x4), .val (.int x5), .val (.int z1), .val (.int z2), .val (.int z3), .val (.ref b4), .unset, .unset, .unset, .unset, .unset, .unset, .unset, .unset, .unset, .unset, .unset, .unset, .unset, .unset, .unset] [(.int (2 : Int32))])) _
        obtain ⟨T18, h18, k18, X18, e18, E18, A18, st18⟩ := newP X14 hx hZ (hw _ (List.mem_of_getElem? (i := 0) rfl)) e14 (g := (mkF m 68 #[.val (.int x0), .val (.int x1), .val (.int x2), .val (.int x3), .val (.int x4), .val (.int x5), .val (.int z1), .val (.int z2), .val (.int z3), .val (.ref b4), .unset, .unset, .unset, .unset, .unset, .unset, .unset, .unset, .unset, .unset, .unset, .unset, .unset, .unset, .unset] [(.int (2 : Int32))])) rfl (hb hby at_68) rfl (by decide) (cap := 2) (by decide) (by decide) (by decide) (by decide)
        obtain ⟨b18, g18⟩ : ∃ z, z = h14.size := ⟨_, rfl⟩
        rw [← g18] at A18 st18
        refine own_go st18 ?_
        have O19 := O15.ext E18
        have sz20 : h14.size ≤ h18.size := E18.1
        have hk21 := Nat.le_trans hk17 E18.1
        have l18 : b18 < h18.size := A18.lt
        have V18 : Arv Z h18 b18 k18 .char (2 : Int32) [(.int (0 : Int32)), (.int (0 : Int32))] (.int (0 : Int32)) := (Arv.new A18 (by decide)).pad (pad_rep [] (.int (0 : Int32)) 2)
        show own_Goes p e below (T18.setTop (mkF m 70 #[.val (.int x0), .val (.int x1), .val (.int x2), .val (.int x3), .val (.int x4), .val (.int x5), .val (.int z1), .val (.int z2), .val (.int z3), .val (.ref b4), .unset, .unset, .unset, .unset, .unset, .unset, .unset, .unset, .unset, .unset, .unset, .unset, .unset, .unset, .unset] [(.ref b18)])) _
        refine own_go (fun t_ k_ => XS.astore X18.here hx rfl (hb hby at_70) rfl rfl (l' := #[.val (.int x0), .val (.int x1), .val (.int x2), .val (.int x3), .val (.int x4), .val (.int x5), .val (.int z1), .val (.int z2), .val (.int z3), .val (.ref b4), .val (.ref b18), .unset, .unset, .unset, .unset, .unset, .unset, .unset, .unset, .unset, .unset, .unset, .unset, .unset, .unset]) rfl k_) ?_
        show own_Goes p e below (T18.setTop (mkF m 72 #[.val (.int x0), .val (.int x1), .val (.int x2), .val (.int x3), .val (.int x4), .val (.int x5), .val (.int z1), .val (.int z2), .val (.int z3), .val (.ref b4), .val (.ref b18), .unset, .unset, .unset, .unset, .unset, .unset, .unset, .unset, .unset, .unset, .unset, .unset, .unset, .unset] [])) _
        refine own_go (fun t_ k_ => XS.aload X18.here hx rfl (hb hby at_72) rfl rfl k_) ?_
        show own_Goes p e below (T18.setTop (mkF m 74 #[.val (.int x0), .val (.int x1), .val (.int x2), .val (.int x3), .val (.int x4), .val (.int x5), .val (.int z1), .val (.int z2), .val (.int z3), .val (.ref b4), .val (.ref b18), .unset, .unset, .unset, .unset, .unset, .unset, .unset, .unset, .unset, .unset, .unset, .unset, .unset, .unset] [(.ref b18)])) _
        refine own_go (fun t_ k_ => XS.iconst X18.here hx rfl (hb hby at_74) k_) ?_
        show own_Goes p e below (T18.setTop (mkF m 75 #[.val (.int x0), .val (.int x1), .val (.int x2), .val (.int x3), .val (.int x4), .val (.int x5), .val (.int z1), .val (.int z2), .val (.int z3), .val (.ref b4), .val (.ref b18), .unset, .unset, .unset, .unset, .unset, .unset, .unset, .unset, .unset, .unset, .unset, .unset, .unset, .unset] [(.int (0 : Int32)), (.ref b18)])) _
        refine own_go (fun t_ k_ => XS.iload X18.here hx rfl (hb hby at_75) rfl k_) ?_
        show own_Goes p e below (T18.setTop (mkF m 77 #[.val (.int x0), .val (.int x1), .val (.int x2), .val (.int x3), .val (.int x4), .val (.int x5), .val (.int z1), .val (.int z2), .val (.int z3), .val (.ref b4), .val (.ref b18), .unset, .unset, .unset, .unset, .unset, .unset, .unset, .unset, .unset, .unset, .unset, .unset, .unset, .unset] [(.int z3), (.int (0 : Int32)), (.ref b18)])) _
        rcases hbz3 with ⟨rfl, hzz3⟩ | ⟨rfl, hzz3⟩
        · show own_Goes p e below (T18.setTop (mkF m 77 #[.val (.int x0), .val (.int x1), .val (.int x2), .val (.int x3), .val (.int x4), .val (.int x5), .val (.int z1), .val (.int z2), .val (.int (1 : Int32)), .val (.ref b4), .val (.ref b18), .unset, .unset, .unset, .unset, .unset, .unset, .unset, .unset, .unset, .unset, .unset, .unset, .unset, .unset] [(.int (1 : Int32)), (.int (0 : Int32)), (.ref b18)])) _
          refine own_go (fun t_ k_ => XS.ifNo X18.here hx rfl (hb hby at_77) rfl ((if0 _ _).trans (feq (show ¬ ((1 : Int32) = (0 : Int32)) from by decide)).1) k_) ?_
          show own_Goes p e below (T18.setTop (mkF m 80 #[.val (.int x0), .val (.int x1), .val (.int x2), .val (.int x3), .val (.int x4), .val (.int x5), .val (.int z1), .val (.int z2), .val (.int (1 : Int32)), .val (.ref b4), .val (.ref b18), .unset, .unset, .unset, .unset, .unset, .unset, .unset, .unset, .unset, .unset, .unset, .unset, .unset, .unset] [(.int (0 : Int32)), (.ref b18)])) _
          refine own_go (fun t_ k_ => XS.aload X18.here hx rfl (hb hby at_80) rfl rfl k_) ?_
          show own_Goes p e below (T18.setTop (mkF m 82 #[.val (.int x0), .val (.int x1), .val (.int x2), .val (.int x3), .val (.int x4), .val (.int x5), .val (.int z1), .val (.int z2), .val (.int (1 : Int32)), .val (.ref b4), .val (.ref b18), .unset, .unset, .unset, .unset, .unset, .unset, .unset, .unset, .unset, .unset, .unset, .unset, .unset, .unset] [(.ref b4), (.int (0 : Int32)), (.ref b18)])) _
          refine own_go (fun t_ k_ => XS.iconst X18.here hx rfl (hb hby at_82) k_) ?_
          show own_Goes p e below (T18.setTop (mkF m 83 #[.val (.int x0), .val (.int x1), .val (.int x2), .val (.int x3), .val (.int x4), .val (.int x5), .val (.int z1), .val (.int z2), .val (.int (1 : Int32)), .val (.ref b4), .val (.ref b18), .unset, .unset, .unset, .unset, .unset, .unset, .unset, .unset, .unset, .unset, .unset, .unset, .unset, .unset] [(.int (0 : Int32)), (.ref b4), (.int (0 : Int32)), (.ref b18)])) _
          have f22 := (V14.ext E18)
          obtain ⟨clu23, Aru23, qu23, Szu23, Ngu23, Hsu23, Gsu23⟩ := id f22
          have inu23 : ¬ ((0 : Int32) < 0 ∨ clu23.slots.size ≤ ((0 : Int32)).toNatClampNeg) := inb_of Szu23 ⟨by decide, by decide⟩
          have atu23 : clu23.slots[((0 : Int32)).toNatClampNeg]? = some (.int (x1 &&& (255 : Int32))) := Hsu23.at inu23 rfl
          refine own_go (fun t_ k_ => X18.caload hx (j := (0 : Int32)) (v := (.int (x1 &&& (255 : Int32)))) (by rw [e18]; exact Aru23.1) (State.isArrayOf_alike hZ.alike Aru23.2.1) Aru23.2.2 inu23 atu23 (g := (mkF m 83 #[.val (.int x0), .val (.int x1), .val (.int x2), .val (.int x3), .val (.int x4), .val (.int x5), .val (.int z1), .val (.int z2), .val (.int (1 : Int32)), .val (.ref b4), .val (.ref b18), .unset, .unset, .unset, .unset, .unset, .unset, .unset, .unset, .unset, .unset, .unset, .unset, .unset, .unset] [(.int (0 : Int32)), (.ref b4), (.int (0 : Int32)), (.ref b18)])) rfl rfl (hb hby at_83) _ k_) ?_
          show own_Goes p e below (T18.setTop (mkF m 84 #[.val (.int x0), .val (.int x1), .val (.int x2), .val (.int x3), .val (.int x4), .val (.int x5), .val (.int z1), .val (.int z2), .val (.int (1 : Int32)), .val (.ref b4), .val (.ref b18), .unset, .unset, .unset, .unset, .unset, .unset, .unset, .unset, .unset, .unset, .unset, .unset, .unset, .unset] [(.int (x1 &&& (255 : Int32))), (.int (0 : Int32)), (.ref b18)])) _
          refine own_go (fun t_ k_ => XS.goto X18.here hx rfl (pc0 := 84) (pc' := 93) rfl (hb hby at_84) (by decide) (by decide) k_) ?_
          show own_Goes p e below (T18.setTop (mkF m 93 #[.val (.int x0), .val (.int x1), .val (.int x2), .val (.int x3), .val (.int x4), .val (.int x5), .val (.int z1), .val (.int z2), .val (.int (1 : Int32)), .val (.ref b4), .val (.ref b18), .unset, .unset, .unset, .unset, .unset, .unset, .unset, .unset, .unset, .unset, .unset, .unset, .unset, .unset] [(.int (x1 &&& (255 : Int32))), (.int (0 : Int32)), (.ref b18)])) _
          obtain ⟨clu24, Aru24, qu24, Szu24, Ngu24, Hsu24, Gsu24⟩ := id V18
          have inu24 : ¬ ((0 : Int32) < 0 ∨ clu24.slots.size ≤ ((0 : Int32)).toNatClampNeg) := inb_of Szu24 ⟨by decide, by decide⟩
          obtain ⟨T25, h25, X25, e25, W25, st25⟩ := stC X18 hx hZ e18 Aru24 (j := (0 : Int32)) inu24 (g := (mkF m 93 #[.val (.int x0), .val (.int x1), .val (.int x2), .val (.int x3), .val (.int x4), .val (.int x5), .val (.int z1), .val (.int z2), .val (.int (1 : Int32)), .val (.ref b4), .val (.ref b18), .unset, .unset, .unset, .unset, .unset, .unset, .unset, .unset, .unset, .unset, .unset, .unset, .unset, .unset] [(.int (x1 &&& (255 : Int32))), (.int (0 : Int32)), (.ref b18)])) rfl rfl (hb hby at_93)
          refine own_go st25 ?_
          have V25 := Arv.set Aru24 qu24 Szu24 Ngu24 Hsu24 Gsu24 (fits_nar_char _) W25 0 rfl (Nat.le_of_ble_eq_true rfl)
          rw [own_narM] at V25
          have O26 := O19.wr W25 (show n0 ≤ b18 by omega)
          have sz27 : h25.size = h18.size := Wr.size W25
          have hk28 := Nat.le_trans hk21 (Nat.le_of_eq (Wr.size W25).symm)
          have N25 := Fr.snoc X25 N14 (show n0 ≤ b18 by omega)
          have V25 : Arv Z h25 b18 k18 .char (2 : Int32) [(.int (x1 &&& (255 : Int32))), (.int (0 : Int32))] (.int (0 : Int32)) := V25
          show own_Goes p e below (T25.setTop (mkF m 94 #[.val (.int x0), .val (.int x1), .val (.int x2), .val (.int x3), .val (.int x4), .val (.int x5), .val (.int z1), .val (.int z2), .val (.int (1 : Int32)), .val (.ref b4), .val (.ref b18), .unset, .unset, .unset, .unset, .unset, .unset, .unset, .unset, .unset, .unset, .unset, .unset, .unset, .unset] [])) _
          refine own_go (fun t_ k_ => XS.aload X25.here hx rfl (hb hby at_94) rfl rfl k_) ?_
          show own_Goes p e below (T25.setTop (mkF m 96 #[.val (.int x0), .val (.int x1), .val (.int x2), .val (.int x3), .val (.int x4), .val (.int x5), .val (.int z1), .val (.int z2), .val (.int (1 : Int32)), .val (.ref b4), .val (.ref b18), .unset, .unset, .unset, .unset, .unset, .unset, .unset, .unset, .unset, .unset, .unset, .unset, .unset, .unset] [(.ref b18)])) _
          refine own_go (fun t_ k_ => XS.iconst X25.here hx rfl (hb hby at_96) k_) ?_
          show own_Goes p e below (T25.setTop (mkF m 97 #[.val (.int x0), .val (.int x1), .val (.int x2), .val (.int x3), .val (.int x4), .val (.int x5), .val (.int z1), .val (.int z2), .val (.int (1 : Int32)), .val (.ref b4), .val (.ref b18), .unset, .unset, .unset, .unset, .unset, .unset, .unset, .unset, .unset, .unset, .unset, .unset, .unset, .unset] [(.int (1 : Int32)), (.ref b18)])) _
          refine own_go (fun t_ k_ => XS.iload X25.here hx rfl (hb hby at_97) rfl k_) ?_
          show own_Goes p e below (T25.setTop (mkF m 99 #[.val (.int x0), .val (.int x1), .val (.int x2), .val (.int x3), .val (.int x4), .val (.int x5), .val (.int z1), .val (.int z2), .val (.int (1 : Int32)), .val (.ref b4), .val (.ref b18), .unset, .unset, .unset, .unset, .unset, .unset, .unset, .unset, .unset, .unset, .unset, .unset, .unset, .unset] [(.int (1 : Int32)), (.int (1 : Int32)), (.ref b18)])) _
          refine own_go (fun t_ k_ => XS.ifNo X25.here hx rfl (hb hby at_99) rfl ((if0 _ _).trans (feq (show ¬ ((1 : Int32) = (0 : Int32)) from by decide)).1) k_) ?_
          show own_Goes p e below (T25.setTop (mkF m 102 #[.val (.int x0), .val (.int x1), .val (.int x2), .val (.int x3), .val (.int x4), .val (.int x5), .val (.int z1), .val (.int z2), .val (.int (1 : Int32)), .val (.ref b4), .val (.ref b18), .unset, .unset, .unset, .unset, .unset, .unset, .unset, .unset, .unset, .unset, .unset, .unset, .unset, .unset] [(.int (1 : Int32)), (.ref b18)])) _
          refine own_go (fun t_ k_ => XS.aload X25.here hx rfl (hb hby at_102) rfl rfl k_) ?_
          show own_Goes p e below (T25.setTop (mkF m 104 #[.val (.int x0), .val (.int x1), .val (.int x2), .val (.int x3), .val (.int x4), .val (.int x5), .val (.int z1), .val (.int z2), .val (.int (1 : Int32)), .val (.ref b4), .val (.ref b18), .unset, .unset, .unset, .unset, .unset, .unset, .unset, .unset, .unset, .unset, .unset, .unset, .unset, .unset] [(.ref b4), (.int (1 : Int32)), (.ref b18)])) _
          refine own_go (fun t_ k_ => XS.iconst X25.here hx rfl (hb hby at_104) k_) ?_
          show own_Goes p e below (T25.setTop (mkF m 105 #[.val (.int x0), .val (.int x1), .val (.int x2), .val (.int x3), .val (.int x4), .val (.int x5), .val (.int z1), .val (.int z2), .val (.int (1 : Int32)), .val (.ref b4), .val (.ref b18), .unset, .unset, .unset, .unset, .unset, .unset, .unset, .unset, .unset, .unset, .unset, .unset, .unset, .unset] [(.int (1 : Int32)), (.ref b4), (.int (1 : Int32)), (.ref b18)])) _
          have f29 := (f22.other W25 (own_ne (a := b4) (b := b18) (by omega)))
          obtain ⟨clu30, Aru30, qu30, Szu30, Ngu30, Hsu30, Gsu30⟩ := id f29
          have inu30 : ¬ ((1 : Int32) < 0 ∨ clu30.slots.size ≤ ((1 : Int32)).toNatClampNeg) := inb_of Szu30 ⟨by decide, by decide⟩
          have atu30 : clu30.slots[((1 : Int32)).toNatClampNeg]? = some (.int (x2 &&& (255 : Int32))) := Hsu30.at inu30 rfl
          refine own_go (fun t_ k_ => X25.caload hx (j := (1 : Int32)) (v := (.int (x2 &&& (255 : Int32)))) (by rw [e25]; exact Aru30.1) (State.isArrayOf_alike hZ.alike Aru30.2.1) Aru30.2.2 inu30 atu30 (g := (mkF m 105 #[.val (.int x0), .val (.int x1), .val (.int x2), .val (.int x3), .val (.int x4), .val (.int x5), .val (.int z1), .val (.int z2), .val (.int (1 : Int32)), .val (.ref b4), .val (.ref b18), .unset, .unset, .unset, .unset, .unset, .unset, .unset, .unset, .unset, .unset, .unset, .unset, .unset, .unset] [(.int (1 : Int32)), (.ref b4), (.int (1 : Int32)), (.ref b18)])) rfl rfl (hb hby at_105) _ k_) ?_
          show own_Goes p e below (T25.setTop (mkF m 106 #[.val (.int x0), .val (.int x1), .val (.int x2), .val (.int x3), .val (.int x4), .val (.int x5), .val (.int z1), .val (.int z2), .val (.int (1 : Int32)), .val (.ref b4), .val (.ref b18), .unset, .unset, .unset, .unset, .unset, .unset, .unset, .unset, .unset, .unset, .unset, .unset, .unset, .unset] [(.int (x2 &&& (255 : Int32))), (.int (1 : Int32)), (.ref b18)])) _
          refine own_go (fun t_ k_ => XS.goto X25.here hx rfl (pc0 := 106) (pc' := 116) rfl (hb hby at_106) (by decide) (by decide) k_) ?_
          show own_Goes p e below (T25.setTop (mkF m 116 #[.val (.int x0), .val (.int x1), .val (.int x2), .val (.int x3), .val (.int x4), .val (.int x5), .val (.int z1), .val (.int z2), .val (.int (1 : Int32)), .val (.ref b4), .val (.ref b18), .unset, .unset, .unset, .unset, .unset, .unset, .unset, .unset, .unset, .unset, .unset, .unset, .unset, .unset] [(.int (x2 &&& (255 : Int32))), (.int (1 : Int32)), (.ref b18)])) _
          obtain ⟨clu31, Aru31, qu31, Szu31, Ngu31, Hsu31, Gsu31⟩ := id V25
          have inu31 : ¬ ((1 : Int32) < 0 ∨ clu31.slots.size ≤ ((1 : Int32)).toNatClampNeg) := inb_of Szu31 ⟨by decide, by decide⟩
          obtain ⟨T32, h32, X32, e32, W32, st32⟩ := stC X25 hx hZ e25 Aru31 (j := (1 : Int32)) inu31 (g := (mkF m 116 #[.val (.int x0), .val (.int x1), .val (.int x2), .val (.int x3), .val (.int x4), .val (.int x5), .val (.int z1), .val (.int z2), .val (.int (1 : Int32)), .val (.ref b4), .val (.ref b18), .unset, .unset, .unset, .unset, .unset, .unset, .unset, .unset, .unset, .unset, .unset, .unset, .unset, .unset] [(.int (x2 &&& (255 : Int32))), (.int (1 : Int32)), (.ref b18)])) rfl rfl (hb hby at_116)
          refine own_go st32 ?_
          have V32 := Arv.set Aru31 qu31 Szu31 Ngu31 Hsu31 Gsu31 (fits_nar_char _) W32 1 rfl (Nat.le_of_ble_eq_true rfl)
          rw [own_narM] at V32
          have O33 := O26.wr W32 (show n0 ≤ b18 by omega)
          have sz34 : h32.size = h25.size := Wr.size W32
          have hk35 := Nat.le_trans hk28 (Nat.le_of_eq (Wr.size W32).symm)
          have N32 := Fr.snoc X32 N25 (show n0 ≤ b18 by omega)
          have V32 : Arv Z h32 b18 k18 .char (2 : Int32) [(.int (x1 &&& (255 : Int32))), (.int (x2 &&& (255 : Int32)))] (.int (0 : Int32)) := V32
          show own_Goes p e below (T32.setTop (mkF m 117 #[.val (.int x0), .val (.int x1), .val (.int x2), .val (.int x3), .val (.int x4), .val (.int x5), .val (.int z1), .val (.int z2), .val (.int (1 : Int32)), .val (.ref b4), .val (.ref b18), .unset, .unset, .unset, .unset, .unset, .unset, .unset, .unset, .unset, .unset, .unset, .unset, .unset, .unset] [])) _
          obtain ⟨T36, h36, X36, e36, E36, A36, D36, -, st36⟩ := newO X32 hx hZ hown (hw _ (List.mem_of_getElem? (i := 1) rfl)) (hw _ (List.mem_of_getElem? (i := 2) rfl)) (hw _ (List.mem_of_getElem? (i := 3) rfl)) e32 (g := (mkF m 117 #[.val (.int x0), .val (.int x1), .val (.int x2), .val (.int x3), .val (.int x4), .val (.int x5), .val (.int z1), .val (.int z2), .val (.int (1 : Int32)), .val (.ref b4), .val (.ref b18), .unset, .unset, .unset, .unset, .unset, .unset, .unset, .unset, .unset, .unset, .unset, .unset, .unset, .unset] [])) rfl (hb hby at_117) (by decide) (by decide)
          obtain ⟨b36, g36⟩ : ∃ z, z = h32.size := ⟨_, rfl⟩
          rw [← g36] at A36 D36 st36
          refine own_go st36 ?_
          have O37 := O33.ext E36
          have sz38 : h32.size ≤ h36.size := E36.1
          have hk39 := Nat.le_trans hk35 E36.1
          have l36 : b36 < h36.size := A36.lt
          have F36_coder : Fld Z h36 b36 "java/lang/String" "coder" "B" (.int (0 : Int32)) := D36 (Or.inr (hw _ (List.mem_of_getElem? (i := 27) rfl))) (ty := .byte) (by decide)
          have F36_value : Fld Z h36 b36 "java/lang/String" "value" "[B" .null := D36 (Or.inr (hw _ (List.mem_of_getElem? (i := 29) rfl))) (ty := (.array .byte)) (by decide)
          show own_Goes p e below (T36.setTop (mkF m 120 #[.val (.int x0), .val (.int x1), .val (.int x2), .val (.int x3), .val (.int x4), .val (.int x5), .val (.int z1), .val (.int z2), .val (.int (1 : Int32)), .val (.ref b4), .val (.ref b18), .unset, .unset, .unset, .unset, .unset, .unset, .unset, .unset, .unset, .unset, .unset, .unset, .unset, .unset] [(.ref b36)])) _
          refine own_go (fun t_ k_ => XS.dup X36.here hx rfl (hb hby at_120) rfl rfl k_) ?_
          show own_Goes p e below (T36.setTop (mkF m 121 #[.val (.int x0), .val (.int x1), .val (.int x2), .val (.int x3), .val (.int x4), .val (.int x5), .val (.int z1), .val (.int z2), .val (.int (1 : Int32)), .val (.ref b4), .val (.ref b18), .unset, .unset, .unset, .unset, .unset, .unset, .unset, .unset, .unset, .unset, .unset, .unset, .unset, .unset] [(.ref b36), (.ref b36)])) _
          refine own_go (fun t_ k_ => XS.aload X36.here hx rfl (hb hby at_121) rfl rfl k_) ?_
          show own_Goes p e below (T36.setTop (mkF m 123 #[.val (.int x0), .val (.int x1), .val (.int x2), .val (.int x3), .val (.int x4), .val (.int x5), .val (.int z1), .val (.int z2), .val (.int (1 : Int32)), .val (.ref b4), .val (.ref b18), .unset, .unset, .unset, .unset, .unset, .unset, .unset, .unset, .unset, .unset, .unset, .unset, .unset, .unset] [(.ref b4), (.ref b36), (.ref b36)])) _
          have f40 := ((f29.other W32 (own_ne (a := b4) (b := b18) (by omega))).ext E36)
          have q41 := G0.ext O37.2
          have hp42 : ∀ c_ ∈ ([(x1 &&& (255 : Int32)), (x2 &&& (255 : Int32))] : List Int32), ¬ c_ < 0 ∧ ¬ (255 : Int32) < c_ := by
            intro c_ hc_
            simp only [List.mem_cons, List.not_mem_nil, or_false] at hc_
            rcases hc_ with rfl | rfl
            · exact (own_ch255 _)
            · exact (own_ch255 _)
          obtain ⟨_, _, ⟨T43, L43, k43, n43⟩, -, X43, ⟨Lc43, hQ43, l43, y43, z43⟩, st43⟩ := X36.specialBack hx (y := (⟨"java/lang/String", "<init>", "([C)V"⟩ : MethodName)) rfl hown (mvT hZ (hw _ (List.mem_of_getElem? (i := 4) rfl))) (mvT hZ (hw _ (List.mem_of_getElem? (i := 5) rfl))) (mvT hZ (hw _ (List.mem_of_getElem? (i := 6) rfl))) (by decide) (StrChars.Road.backV (W := 1) hZ (own_wV hw) (kI := 4) (hw _ (List.mem_of_getElem? (i := 2) rfl)) (cs := ([(x1 &&& (255 : Int32)), (x2 &&& (255 : Int32))] : List Int32)) (bs := ([(x1 &&& (255 : Int32)), (x2 &&& (255 : Int32))] : List Int32).map (fun c => c.toInt8.toInt32)) (n := 2) (show n0 ≤ b36 by omega) (show n0 ≤ h36.size by omega) A36 F36_value F36_coder f40 q41 G1 rfl rfl (by decide) (by decide) hp42 rfl (by decide) (by decide)) (g := (mkF m 123 #[.val (.int x0), .val (.int x1), .val (.int x2), .val (.int x3), .val (.int x4), .val (.int x5), .val (.int z1), .val (.int z2), .val (.int (1 : Int32)), .val (.ref b4), .val (.ref b18), .unset, .unset, .unset, .unset, .unset, .unset, .unset, .unset, .unset, .unset, .unset, .unset, .unset, .unset] [(.ref b4), (.ref b36), (.ref b36)])) rfl (by rw [hml]; rfl) (Steps.refl _) (a := b36) (argsL := [(.ref b4)]) (rest := [(.ref b36)]) (lenOf own_pd_4 rfl) rfl (by show 2 * 0 + _ ≤ _; exact Nat.le_of_eq rfl) (hb hby at_123) (fun _ _ => ⟨rfl, e36, (by decide : 3 + 1 ≤ _), (by decide : 8 + 2 ≤ _)⟩)
          dsimp only [Pt.U, Pt.locs, Pt.cells, Pt.slots] at X43 l43 y43 z43 st43 hQ43
          subst l43 y43 z43
          obtain ⟨h43, e43⟩ : ∃ z, T43.heap = z := ⟨_, rfl⟩
          rw [e43] at hQ43
          obtain ⟨rfl, Nc43, Kc43, Es43, Cs43, t43, kb43, ta43, tb43, tc43, Vs43, As43⟩ := hQ43
          have N43 := Fr.app N32 Nc43
          have O44 := O37.keep Kc43 (allS (show n0 ≤ b36 by omega) all0)
          have sz45 : h36.size ≤ h43.size := Kc43.1
          have hk46 := Nat.le_trans hk39 Kc43.1
          have lt43 : t43 < h43.size := As43.lt
          have lx43 : b36 < h43.size := Es43.lt
          refine own_goS st43 ?_
          show own_Goes p e below (T43.setTop (mkF m 126 #[.val (.int x0), .val (.int x1), .val (.int x2), .val (.int x3), .val (.int x4), .val (.int x5), .val (.int z1), .val (.int z2), .val (.int (1 : Int32)), .val (.ref b4), .val (.ref b18), .unset, .unset, .unset, .unset, .unset, .unset, .unset, .unset, .unset, .unset, .unset, .unset, .unset, .unset] [(.ref b36)])) _
          refine own_go (fun t_ k_ => XS.astore X43.here hx rfl (hb hby at_126) rfl rfl (l' := #[.val (.int x0), .val (.int x1), .val (.int x2), .val (.int x3), .val (.int x4), .val (.int x5), .val (.int z1), .val (.int z2), .val (.int (1 : Int32)), .val (.ref b4), .val (.ref b18), .val (.ref b36), .unset, .unset, .unset, .unset, .unset, .unset, .unset, .unset, .unset, .unset, .unset, .unset, .unset]) rfl k_) ?_
          show own_Goes p e below (T43.setTop (mkF m 128 #[.val (.int x0), .val (.int x1), .val (.int x2), .val (.int x3), .val (.int x4), .val (.int x5), .val (.int z1), .val (.int z2), .val (.int (1 : Int32)), .val (.ref b4), .val (.ref b18), .val (.ref b36), .unset, .unset, .unset, .unset, .unset, .unset, .unset, .unset, .unset, .unset, .unset, .unset, .unset] [])) _
          obtain ⟨T47, h47, X47, e47, E47, A47, D47, -, st47⟩ := newO X43 hx hZ hown (hw _ (List.mem_of_getElem? (i := 1) rfl)) (hw _ (List.mem_of_getElem? (i := 2) rfl)) (hw _ (List.mem_of_getElem? (i := 3) rfl)) e43 (g := (mkF m 128 #[.val (.int x0), .val (.int x1), .val (.int x2), .val (.int x3), .val (.int x4), .val (.int x5), .val (.int z1), .val (.int z2), .val (.int (1 : Int32)), .val (.ref b4), .val (.ref b18), .val (.ref b36), .unset, .unset, .unset, .unset, .unset, .unset, .unset, .unset, .unset, .unset, .unset, .unset, .unset] [])) rfl (hb hby at_128) (by decide) (by decide)
          obtain ⟨b47, g47⟩ : ∃ z, z = h43.size := ⟨_, rfl⟩
          rw [← g47] at A47 D47 st47
          refine own_go st47 ?_
          have O48 := O44.ext E47
          have sz49 : h43.size ≤ h47.size := E47.1
          have hk50 := Nat.le_trans hk46 E47.1
          have l47 : b47 < h47.size := A47.lt
          have F47_coder : Fld Z h47 b47 "java/lang/String" "coder" "B" (.int (0 : Int32)) := D47 (Or.inr (hw _ (List.mem_of_getElem? (i := 27) rfl))) (ty := .byte) (by decide)
          have F47_value : Fld Z h47 b47 "java/lang/String" "value" "[B" .null := D47 (Or.inr (hw _ (List.mem_of_getElem? (i := 29) rfl))) (ty := (.array .byte)) (by decide)
          show own_Goes p e below (T47.setTop (mkF m 131 #[.val (.int x0), .val (.int x1), .val (.int x2), .val (.int x3), .val (.int x4), .val (.int x5), .val (.int z1), .val (.int z2), .val (.int (1 : Int32)), .val (.ref b4), .val (.ref b18), .val (.ref b36), .unset, .unset, .unset, .unset, .unset, .unset, .unset, .unset, .unset, .unset, .unset, .unset, .unset] [(.ref b47)])) _
          refine own_go (fun t_ k_ => XS.dup X47.here hx rfl (hb hby at_131) rfl rfl k_) ?_
          show own_Goes p e below (T47.setTop (mkF m 132 #[.val (.int x0), .val (.int x1), .val (.int x2), .val (.int x3), .val (.int x4), .val (.int x5), .val (.int z1), .val (.int z2), .val (.int (1 : Int32)), .val (.ref b4), .val (.ref b18), .val (.ref b36), .unset, .unset, .unset, .unset, .unset, .unset, .unset, .unset, .unset, .unset, .unset, .unset, .unset] [(.ref b47), (.ref b47)])) _
          refine own_go (fun t_ k_ => XS.aload X47.here hx rfl (hb hby at_132) rfl rfl k_) ?_
          show own_Goes p e below (T47.setTop (mkF m 134 #[.val (.int x0), .val (.int x1), .val (.int x2), .val (.int x3), .val (.int x4), .val (.int x5), .val (.int z1), .val (.int z2), .val (.int (1 : Int32)), .val (.ref b4), .val (.ref b18), .val (.ref b36), .unset, .unset, .unset, .unset, .unset, .unset, .unset, .unset, .unset, .unset, .unset, .unset, .unset] [(.ref b18), (.ref b47), (.ref b47)])) _
          have f51 := (((V32.ext E36).keep Kc43 (ninS (own_ne (a := b18) (b := b36) (by omega)) nin0)).ext E47)
          have q52 := G0.ext O48.2
          have hp53 : ∀ c_ ∈ ([(x1 &&& (255 : Int32)), (x2 &&& (255 : Int32))] : List Int32), ¬ c_ < 0 ∧ ¬ (255 : Int32) < c_ := by
            intro c_ hc_
            simp only [List.mem_cons, List.not_mem_nil, or_false] at hc_
            rcases hc_ with rfl | rfl
            · exact (own_ch255 _)
            · exact (own_ch255 _)
          obtain ⟨_, _, ⟨T54, L54, k54, n54⟩, -, X54, ⟨Lc54, hQ54, l54, y54, z54⟩, st54⟩ := X47.specialBack hx (y := (⟨"java/lang/String", "<init>", "([C)V"⟩ : MethodName)) rfl hown (mvT hZ (hw _ (List.mem_of_getElem? (i := 4) rfl))) (mvT hZ (hw _ (List.mem_of_getElem? (i := 5) rfl))) (mvT hZ (hw _ (List.mem_of_getElem? (i := 6) rfl))) (by decide) (StrChars.Road.backV (W := 1) hZ (own_wV hw) (kI := 4) (hw _ (List.mem_of_getElem? (i := 2) rfl)) (cs := ([(x1 &&& (255 : Int32)), (x2 &&& (255 : Int32))] : List Int32)) (bs := ([(x1 &&& (255 : Int32)), (x2 &&& (255 : Int32))] : List Int32).map (fun c => c.toInt8.toInt32)) (n := 2) (show n0 ≤ b47 by omega) (show n0 ≤ h47.size by omega) A47 F47_value F47_coder f51 q52 G1 rfl rfl (by decide) (by decide) hp53 rfl (by decide) (by decide)) (g := (mkF m 134 #[.val (.int x0), .val (.int x1), .val (.int x2), .val (.int x3), .val (.int x4), .val (.int x5), .val (.int z1), .val (.int z2), .val (.int (1 : Int32)), .val (.ref b4), .val (.ref b18), .val (.ref b36), .unset, .unset, .unset, .unset, .unset, .unset, .unset, .unset, .unset, .unset, .unset, .unset, .unset] [(.ref b18), (.ref b47), (.ref b47)])) rfl (by rw [hml]; rfl) (Steps.refl _) (a := b47) (argsL := [(.ref b18)]) (rest := [(.ref b47)]) (lenOf own_pd_4 rfl) rfl (by show 2 * 0 + _ ≤ _; exact Nat.le_of_eq rfl) (hb hby at_134) (fun _ _ => ⟨rfl, e47, (by decide : 5 + 1 ≤ _), (by decide : 14 + 2 ≤ _)⟩)
          dsimp only [Pt.U, Pt.locs, Pt.cells, Pt.slots] at X54 l54 y54 z54 st54 hQ54
          subst l54 y54 z54
          obtain ⟨h54, e54⟩ : ∃ z, T54.heap = z := ⟨_, rfl⟩
          rw [e54] at hQ54
          obtain ⟨rfl, Nc54, Kc54, Es54, Cs54, t54, kb54, ta54, tb54, tc54, Vs54, As54⟩ := hQ54
          have N54 := Fr.app N43 Nc54
          have O55 := O48.keep Kc54 (allS (show n0 ≤ b47 by omega) all0)
          have sz56 : h47.size ≤ h54.size := Kc54.1
          have hk57 := Nat.le_trans hk50 Kc54.1
          have lt54 : t54 < h54.size := As54.lt
          have lx54 : b47 < h54.size := Es54.lt
          refine own_goS st54 ?_
          show own_Goes p e below (T54.setTop (mkF m 137 #[.val (.int x0), .val (.int x1), .val (.int x2), .val (.int x3), .val (.int x4), .val (.int x5), .val (.int z1), .val (.int z2), .val (.int (1 : Int32)), .val (.ref b4), .val (.ref b18), .val (.ref b36), .unset, .unset, .unset, .unset, .unset, .unset, .unset, .unset, .unset, .unset, .unset, .unset, .unset] [(.ref b47)])) _
          refine own_go (fun t_ k_ => XS.astore X54.here hx rfl (hb hby at_137) rfl rfl (l' := #[.val (.int x0), .val (.int x1), .val (.int x2), .val (.int x3), .val (.int x4), .val (.int x5), .val (.int z1), .val (.int z2), .val (.int (1 : Int32)), .val (.ref b4), .val (.ref b18), .val (.ref b36), .val (.ref b47), .unset, .unset, .unset, .unset, .unset, .unset, .unset, .unset, .unset, .unset, .unset, .unset]) rfl k_) ?_
          show own_Goes p e below (T54.setTop (mkF m 139 #[.val (.int x0), .val (.int x1), .val (.int x2), .val (.int x3), .val (.int x4), .val (.int x5), .val (.int z1), .val (.int z2), .val (.int (1 : Int32)), .val (.ref b4), .val (.ref b18), .val (.ref b36), .val (.ref b47), .unset, .unset, .unset, .unset, .unset, .unset, .unset, .unset, .unset, .unset, .unset, .unset] [])) _
          obtain ⟨T58, h58, X58, e58, E58, A58, D58, -, st58⟩ := newO X54 hx hZ hown (hw _ (List.mem_of_getElem? (i := 30) rfl)) (hw _ (List.mem_of_getElem? (i := 31) rfl)) (hw _ (List.mem_of_getElem? (i := 32) rfl)) e54 (g := (mkF m 139 #[.val (.int x0), .val (.int x1), .val (.int x2), .val (.int x3), .val (.int x4), .val (.int x5), .val (.int z1), .val (.int z2), .val (.int (1 : Int32)), .val (.ref b4), .val (.ref b18), .val (.ref b36), .val (.ref b47), .unset, .unset, .unset, .unset, .unset, .unset, .unset, .unset, .unset, .unset, .unset, .unset] [])) rfl (hb hby at_139) (by decide) (by decide)
          obtain ⟨b58, g58⟩ : ∃ z, z = h54.size := ⟨_, rfl⟩
          rw [← g58] at A58 D58 st58
          refine own_go st58 ?_
          have O59 := O55.ext E58
          have sz60 : h54.size ≤ h58.size := E58.1
          have hk61 := Nat.le_trans hk57 E58.1
          have l58 : b58 < h58.size := A58.lt
          have F58_name : Fld Z h58 b58 "com/example/breach_or_proof/breachorproof/NameSymbol" "name" "Ljava/lang/String;" .null := D58 (Or.inr (hw _ (List.mem_of_getElem? (i := 46) rfl))) (ty := (.object "java/lang/String")) (by decide)
          have F58_isPrivate : Fld Z h58 b58 "com/example/breach_or_proof/breachorproof/NameSymbol" "isPrivate" "Z" (.int (0 : Int32)) := D58 (Or.inr (hw _ (List.mem_of_getElem? (i := 48) rfl))) (ty := .boolean) (by decide)
          show own_Goes p e below (T58.setTop (mkF m 142 #[.val (.int x0), .val (.int x1), .val (.int x2), .val (.int x3), .val (.int x4), .val (.int x5), .val (.int z1), .val (.int z2), .val (.int (1 : Int32)), .val (.ref b4), .val (.ref b18), .val (.ref b36), .val (.ref b47), .unset, .unset, .unset, .unset, .unset, .unset, .unset, .unset, .unset, .unset, .unset, .unset] [(.ref b58)])) _
          refine own_go (fun t_ k_ => XS.dup X58.here hx rfl (hb hby at_142) rfl rfl k_) ?_
          show own_Goes p e below (T58.setTop (mkF m 143 #[.val (.int x0), .val (.int x1), .val (.int x2), .val (.int x3), .val (.int x4), .val (.int x5), .val (.int z1), .val (.int z2), .val (.int (1 : Int32)), .val (.ref b4), .val (.ref b18), .val (.ref b36), .val (.ref b47), .unset, .unset, .unset, .unset, .unset, .unset, .unset, .unset, .unset, .unset, .unset, .unset] [(.ref b58), (.ref b58)])) _
          refine own_go (fun t_ k_ => XS.aload X58.here hx rfl (hb hby at_143) rfl rfl k_) ?_
          show own_Goes p e below (T58.setTop (mkF m 145 #[.val (.int x0), .val (.int x1), .val (.int x2), .val (.int x3), .val (.int x4), .val (.int x5), .val (.int z1), .val (.int z2), .val (.int (1 : Int32)), .val (.ref b4), .val (.ref b18), .val (.ref b36), .val (.ref b47), .unset, .unset, .unset, .unset, .unset, .unset, .unset, .unset, .unset, .unset, .unset, .unset] [(.ref b36), (.ref b58), (.ref b58)])) _
          refine own_go (fun t_ k_ => XS.iload X58.here hx rfl (hb hby at_145) rfl k_) ?_
          show own_Goes p e below (T58.setTop (mkF m 147 #[.val (.int x0), .val (.int x1), .val (.int x2), .val (.int x3), .val (.int x4), .val (.int x5), .val (.int z1), .val (.int z2), .val (.int (1 : Int32)), .val (.ref b4), .val (.ref b18), .val (.ref b36), .val (.ref b47), .unset, .unset, .unset, .unset, .unset, .unset, .unset, .unset, .unset, .unset, .unset, .unset] [(.int z1), (.ref b36), (.ref b58), (.ref b58)])) _
          have f62 := (((Es43.ext E47).keep Kc54).ext E58)
          obtain ⟨_, _, ⟨T63, L63, k63, n63⟩, -, X63, hS63, gr63, ⟨Lc63, hQ63, l63, y63, z63⟩, st63⟩ := X58.specialBackS hx (y := own_m6) rfl hown (mvT hZ (hw _ (List.mem_of_getElem? (i := 33) rfl))) (mvT hZ (hw _ (List.mem_of_getElem? (i := 34) rfl))) (mvT hZ (hw _ (List.mem_of_getElem? (i := 35) rfl))) (by decide) (backOfS (W := 1) (own_nsInit l Z a0 hw [] b58 b36 z1 h58 n0 O59 A58 F58_name F58_isPrivate f62 (show n0 ≤ b58 by first | assumption | omega | decide) (show z1 = 0 ∨ z1 = 1 from (own_01 hbz1))) hZ (hw _ (List.mem_of_getElem? (i := 35) rfl)) (hw _ (List.mem_of_getElem? (i := 32) rfl)) (by decide) (by decide)) (g := (mkF m 147 #[.val (.int x0), .val (.int x1), .val (.int x2), .val (.int x3), .val (.int x4), .val (.int x5), .val (.int z1), .val (.int z2), .val (.int (1 : Int32)), .val (.ref b4), .val (.ref b18), .val (.ref b36), .val (.ref b47), .unset, .unset, .unset, .unset, .unset, .unset, .unset, .unset, .unset, .unset, .unset, .unset] [(.int z1), (.ref b36), (.ref b58), (.ref b58)])) rfl (by rw [hml]; rfl) (Steps.refl _) (a := b58) (argsL := [(.ref b36), (.int z1)]) (rest := [(.ref b58)]) (lenOf own_pd_5 rfl) rfl (by show 2 * 0 + _ ≤ _; exact Nat.le_of_eq rfl) (hb hby at_147) (fun _ _ => ⟨rfl, e58, (by decide : 7 + 2 ≤ _), (by decide : 18 + 20 ≤ _)⟩)
          dsimp only [Pt.U, Pt.locs, Pt.cells, Pt.slots] at X63 l63 y63 z63 st63 hQ63 hS63 gr63
          subst l63 y63 z63
          obtain ⟨h63, e63⟩ : ∃ z, T63.heap = z := ⟨_, rfl⟩
          rw [e63] at hQ63 hS63 gr63
          obtain ⟨Nc63, Kc63, rfl⟩ := hQ63
          obtain ⟨X63, hS63, hZ63, hown63⟩ := rebS (own := "com/example/breach_or_proof/breachorproof/NameEqualsPinLaw") hS0 (show _ ≤ T58.heap.size by rw [e58]; exact hk61) X63 hS63 gr63 hZ hown
          have hk63 : h63.size ≤ h63.size := Nat.le_refl _
          have N63 := Fr.app N54 Nc63
          have O64 := O59.keep Kc63 (allS (show n0 ≤ b58 by omega) all0)
          have sz65 : h58.size ≤ h63.size := Kc63.1
          refine own_goS st63 ?_
          show own_Goes p e below (T63.setTop (mkF m 150 #[.val (.int x0), .val (.int x1), .val (.int x2), .val (.int x3), .val (.int x4), .val (.int x5), .val (.int z1), .val (.int z2), .val (.int (1 : Int32)), .val (.ref b4), .val (.ref b18), .val (.ref b36), .val (.ref b47), .unset, .unset, .unset, .unset, .unset, .unset, .unset, .unset, .unset, .unset, .unset, .unset] [(.ref b58)])) _
          refine own_go (fun t_ k_ => XS.astore X63.here hx rfl (hb hby at_150) rfl rfl (l' := #[.val (.int x0), .val (.int x1), .val (.int x2), .val (.int x3), .val (.int x4), .val (.int x5), .val (.int z1), .val (.int z2), .val (.int (1 : Int32)), .val (.ref b4), .val (.ref b18), .val (.ref b36), .val (.ref b47), .val (.ref b58), .unset, .unset, .unset, .unset, .unset, .unset, .unset, .unset, .unset, .unset, .unset]) rfl k_) ?_
          show own_Goes p e below (T63.setTop (mkF m 152 #[.val (.int x0), .val (.int x1), .val (.int x2), .val (.int x3), .val (.int x4), .val (.int x5), .val (.int z1), .val (.int z2), .val (.int (1 : Int32)), .val (.ref b4), .val (.ref b18), .val (.ref b36), .val (.ref b47), .val (.ref b58), .unset, .unset, .unset, .unset, .unset, .unset, .unset, .unset, .unset, .unset, .unset] [])) _
          obtain ⟨T66, h66, X66, e66, E66, A66, D66, -, st66⟩ := newO X63 hx hZ63 hown63 (hw _ (List.mem_of_getElem? (i := 30) rfl)) (hw _ (List.mem_of_getElem? (i := 31) rfl)) (hw _ (List.mem_of_getElem? (i := 32) rfl)) e63 (g := (mkF m 152 #[.val (.int x0), .val (.int x1), .val (.int x2), .val (.int x3), .val (.int x4), .val (.int x5), .val (.int z1), .val (.int z2), .val (.int (1 : Int32)), .val (.ref b4), .val (.ref b18), .val (.ref b36), .val (.ref b47), .val (.ref b58), .unset, .unset, .unset, .unset, .unset, .unset, .unset, .unset, .unset, .unset, .unset] [])) rfl (hb hby at_152) (by decide) (by decide)
          obtain ⟨b66, g66⟩ : ∃ z, z = h63.size := ⟨_, rfl⟩
          rw [← g66] at A66 D66 st66
          refine own_go st66 ?_
          have O67 := O64.ext E66
          have sz68 : h63.size ≤ h66.size := E66.1
          have hk69 := Nat.le_trans hk63 E66.1
          have l66 : b66 < h66.size := A66.lt
          have F66_name : Fld Z h66 b66 "com/example/breach_or_proof/breachorproof/NameSymbol" "name" "Ljava/lang/String;" .null := D66 (Or.inr (hw _ (List.mem_of_getElem? (i := 46) rfl))) (ty := (.object "java/lang/String")) (by decide)
          have F66_isPrivate : Fld Z h66 b66 "com/example/breach_or_proof/breachorproof/NameSymbol" "isPrivate" "Z" (.int (0 : Int32)) := D66 (Or.inr (hw _ (List.mem_of_getElem? (i := 48) rfl))) (ty := .boolean) (by decide)
          show own_Goes p e below (T66.setTop (mkF m 155 #[.val (.int x0), .val (.int x1), .val (.int x2), .val (.int x3), .val (.int x4), .val (.int x5), .val (.int z1), .val (.int z2), .val (.int (1 : Int32)), .val (.ref b4), .val (.ref b18), .val (.ref b36), .val (.ref b47), .val (.ref b58), .unset, .unset, .unset, .unset, .unset, .unset, .unset, .unset, .unset, .unset, .unset] [(.ref b66)])) _
          refine own_go (fun t_ k_ => XS.dup X66.here hx rfl (hb hby at_155) rfl rfl k_) ?_
          show own_Goes p e below (T66.setTop (mkF m 156 #[.val (.int x0), .val (.int x1), .val (.int x2), .val (.int x3), .val (.int x4), .val (.int x5), .val (.int z1), .val (.int z2), .val (.int (1 : Int32)), .val (.ref b4), .val (.ref b18), .val (.ref b36), .val (.ref b47), .val (.ref b58), .unset, .unset, .unset, .unset, .unset, .unset, .unset, .unset, .unset, .unset, .unset] [(.ref b66), (.ref b66)])) _
          refine own_go (fun t_ k_ => XS.aload X66.here hx rfl (hb hby at_156) rfl rfl k_) ?_
          show own_Goes p e below (T66.setTop (mkF m 158 #[.val (.int x0), .val (.int x1), .val (.int x2), .val (.int x3), .val (.int x4), .val (.int x5), .val (.int z1), .val (.int z2), .val (.int (1 : Int32)), .val (.ref b4), .val (.ref b18), .val (.ref b36), .val (.ref b47), .val (.ref b58), .unset, .unset, .unset, .unset, .unset, .unset, .unset, .unset, .unset, .unset, .unset] [(.ref b47), (.ref b66), (.ref b66)])) _
          refine own_go (fun t_ k_ => XS.iload X66.here hx rfl (hb hby at_158) rfl k_) ?_
          show own_Goes p e below (T66.setTop (mkF m 160 #[.val (.int x0), .val (.int x1), .val (.int x2), .val (.int x3), .val (.int x4), .val (.int x5), .val (.int z1), .val (.int z2), .val (.int (1 : Int32)), .val (.ref b4), .val (.ref b18), .val (.ref b36), .val (.ref b47), .val (.ref b58), .unset, .unset, .unset, .unset, .unset, .unset, .unset, .unset, .unset, .unset, .unset] [(.int (1 : Int32)), (.ref b47), (.ref b66), (.ref b66)])) _
          refine own_go (fun t_ k_ => XS.ifNo X66.here hx rfl (hb hby at_160) rfl ((if0 _ _).trans (feq (show ¬ ((1 : Int32) = (0 : Int32)) from by decide)).1) k_) ?_
          show own_Goes p e below (T66.setTop (mkF m 163 #[.val (.int x0), .val (.int x1), .val (.int x2), .val (.int x3), .val (.int x4), .val (.int x5), .val (.int z1), .val (.int z2), .val (.int (1 : Int32)), .val (.ref b4), .val (.ref b18), .val (.ref b36), .val (.ref b47), .val (.ref b58), .unset, .unset, .unset, .unset, .unset, .unset, .unset, .unset, .unset, .unset, .unset] [(.ref b47), (.ref b66), (.ref b66)])) _
          refine own_go (fun t_ k_ => XS.iload X66.here hx rfl (hb hby at_163) rfl k_) ?_
          show own_Goes p e below (T66.setTop (mkF m 165 #[.val (.int x0), .val (.int x1), .val (.int x2), .val (.int x3), .val (.int x4), .val (.int x5), .val (.int z1), .val (.int z2), .val (.int (1 : Int32)), .val (.ref b4), .val (.ref b18), .val (.ref b36), .val (.ref b47), .val (.ref b58), .unset, .unset, .unset, .unset, .unset, .unset, .unset, .unset, .unset, .unset, .unset] [(.int z1), (.ref b47), (.ref b66), (.ref b66)])) _
          refine own_go (fun t_ k_ => XS.goto X66.here hx rfl (pc0 := 165) (pc' := 170) rfl (hb hby at_165) (by decide) (by decide) k_) ?_
          show own_Goes p e below (T66.setTop (mkF m 170 #[.val (.int x0), .val (.int x1), .val (.int x2), .val (.int x3), .val (.int x4), .val (.int x5), .val (.int z1), .val (.int z2), .val (.int (1 : Int32)), .val (.ref b4), .val (.ref b18), .val (.ref b36), .val (.ref b47), .val (.ref b58), .unset, .unset, .unset, .unset, .unset, .unset, .unset, .unset, .unset, .unset, .unset] [(.int z1), (.ref b47), (.ref b66), (.ref b66)])) _
          have f70 := (((Es54.ext E58).keep Kc63).ext E66)
          obtain ⟨_, _, ⟨T71, L71, k71, n71⟩, -, X71, hS71, gr71, ⟨Lc71, hQ71, l71, y71, z71⟩, st71⟩ := X66.specialBackS hx (y := own_m6) rfl hown63 (mvT hZ63 (hw _ (List.mem_of_getElem? (i := 33) rfl))) (mvT hZ63 (hw _ (List.mem_of_getElem? (i := 34) rfl))) (mvT hZ63 (hw _ (List.mem_of_getElem? (i := 35) rfl))) (by decide) (backOfS (W := 1) (own_nsInit l Z a0 hw [] b66 b47 z1 h66 n0 O67 A66 F66_name F66_isPrivate f70 (show n0 ≤ b66 by first | assumption | omega | decide) (show z1 = 0 ∨ z1 = 1 from (own_01 hbz1))) hZ63 (hw _ (List.mem_of_getElem? (i := 35) rfl)) (hw _ (List.mem_of_getElem? (i := 32) rfl)) (by decide) (by decide)) (g := (mkF m 170 #[.val (.int x0), .val (.int x1), .val (.int x2), .val (.int x3), .val (.int x4), .val (.int x5), .val (.int z1), .val (.int z2), .val (.int (1 : Int32)), .val (.ref b4), .val (.ref b18), .val (.ref b36), .val (.ref b47), .val (.ref b58), .unset, .unset, .unset, .unset, .unset, .unset, .unset, .unset, .unset, .unset, .unset] [(.int z1), (.ref b47), (.ref b66), (.ref b66)])) rfl (by rw [hml]; rfl) (Steps.refl _) (a := b66) (argsL := [(.ref b47), (.int z1)]) (rest := [(.ref b66)]) (lenOf own_pd_5 rfl) rfl (by show 2 * 0 + _ ≤ _; exact Nat.le_of_eq rfl) (hb hby at_170) (fun _ _ => ⟨rfl, e66, (by decide : 10 + 2 ≤ _), (by decide : 40 + 20 ≤ _)⟩)
          dsimp only [Pt.U, Pt.locs, Pt.cells, Pt.slots] at X71 l71 y71 z71 st71 hQ71 hS71 gr71
          subst l71 y71 z71
          obtain ⟨h71, e71⟩ : ∃ z, T71.heap = z := ⟨_, rfl⟩
          rw [e71] at hQ71 hS71 gr71
          obtain ⟨Nc71, Kc71, rfl⟩ := hQ71
          obtain ⟨X71, hS71, hZ71, hown71⟩ := rebS (own := "com/example/breach_or_proof/breachorproof/NameEqualsPinLaw") hS63 (show _ ≤ T66.heap.size by rw [e66]; exact hk69) X71 hS71 gr71 hZ63 hown63
          have hk71 : h71.size ≤ h71.size := Nat.le_refl _
          have N71 := Fr.app N63 Nc71
          have O72 := O67.keep Kc71 (allS (show n0 ≤ b66 by omega) all0)
          have sz73 : h66.size ≤ h71.size := Kc71.1
          refine own_goS st71 ?_
          show own_Goes p e below (T71.setTop (mkF m 173 #[.val (.int x0), .val (.int x1), .val (.int x2), .val (.int x3), .val (.int x4), .val (.int x5), .val (.int z1), .val (.int z2), .val (.int (1 : Int32)), .val (.ref b4), .val (.ref b18), .val (.ref b36), .val (.ref b47), .val (.ref b58), .unset, .unset, .unset, .unset, .unset, .unset, .unset, .unset, .unset, .unset, .unset] [(.ref b66)])) _
          refine own_go (fun t_ k_ => XS.astore X71.here hx rfl (hb hby at_173) rfl rfl (l' := #[.val (.int x0), .val (.int x1), .val (.int x2), .val (.int x3), .val (.int x4), .val (.int x5), .val (.int z1), .val (.int z2), .val (.int (1 : Int32)), .val (.ref b4), .val (.ref b18), .val (.ref b36), .val (.ref b47), .val (.ref b58), .val (.ref b66), .unset, .unset, .unset, .unset, .unset, .unset, .unset, .unset, .unset, .unset]) rfl k_) ?_
          show own_Goes p e below (T71.setTop (mkF m 175 #[.val (.int x0), .val (.int x1), .val (.int x2), .val (.int x3), .val (.int x4), .val (.int x5), .val (.int z1), .val (.int z2), .val (.int (1 : Int32)), .val (.ref b4), .val (.ref b18), .val (.ref b36), .val (.ref b47), .val (.ref b58), .val (.ref b66), .unset, .unset, .unset, .unset, .unset, .unset, .unset, .unset, .unset, .unset] [])) _
          obtain ⟨T74, h74, X74, e74, E74, A74, D74, -, st74⟩ := newO X71 hx hZ71 hown71 (hw _ (List.mem_of_getElem? (i := 49) rfl)) (hw _ (List.mem_of_getElem? (i := 50) rfl)) (hw _ (List.mem_of_getElem? (i := 51) rfl)) e71 (g := (mkF m 175 #[.val (.int x0), .val (.int x1), .val (.int x2), .val (.int x3), .val (.int x4), .val (.int x5), .val (.int z1), .val (.int z2), .val (.int (1 : Int32)), .val (.ref b4), .val (.ref b18), .val (.ref b36), .val (.ref b47), .val (.ref b58), .val (.ref b66), .unset, .unset, .unset, .unset, .unset, .unset, .unset, .unset, .unset, .unset] [])) rfl (hb hby at_175) (by decide) (by decide)
          obtain ⟨b74, g74⟩ : ∃ z, z = h71.size := ⟨_, rfl⟩
          rw [← g74] at A74 D74 st74
          refine own_go st74 ?_
          have O75 := O72.ext E74
          have sz76 : h71.size ≤ h74.size := E74.1
          have hk77 := Nat.le_trans hk71 E74.1
          have l74 : b74 < h74.size := A74.lt
          have F74_symbol : Fld Z h74 b74 "com/example/breach_or_proof/breachorproof/Name" "symbol" "Lcom/example/breach_or_proof/breachorproof/NameSymbol;" .null := D74 (Or.inr (hw _ (List.mem_of_getElem? (i := 66) rfl))) (ty := (.object "com/example/breach_or_proof/breachorproof/NameSymbol")) (by decide)
          show own_Goes p e below (T74.setTop (mkF m 178 #[.val (.int x0), .val (.int x1), .val (.int x2), .val (.int x3), .val (.int x4), .val (.int x5), .val (.int z1), .val (.int z2), .val (.int (1 : Int32)), .val (.ref b4), .val (.ref b18), .val (.ref b36), .val (.ref b47), .val (.ref b58), .val (.ref b66), .unset, .unset, .unset, .unset, .unset, .unset, .unset, .unset, .unset, .unset] [(.ref b74)])) _
          refine own_go (fun t_ k_ => XS.dup X74.here hx rfl (hb hby at_178) rfl rfl k_) ?_
          show own_Goes p e below (T74.setTop (mkF m 179 #[.val (.int x0), .val (.int x1), .val (.int x2), .val (.int x3), .val (.int x4), .val (.int x5), .val (.int z1), .val (.int z2), .val (.int (1 : Int32)), .val (.ref b4), .val (.ref b18), .val (.ref b36), .val (.ref b47), .val (.ref b58), .val (.ref b66), .unset, .unset, .unset, .unset, .unset, .unset, .unset, .unset, .unset, .unset] [(.ref b74), (.ref b74)])) _
          refine own_go (fun t_ k_ => XS.aload X74.here hx rfl (hb hby at_179) rfl rfl k_) ?_
          show own_Goes p e below (T74.setTop (mkF m 181 #[.val (.int x0), .val (.int x1), .val (.int x2), .val (.int x3), .val (.int x4), .val (.int x5), .val (.int z1), .val (.int z2), .val (.int (1 : Int32)), .val (.ref b4), .val (.ref b18), .val (.ref b36), .val (.ref b47), .val (.ref b58), .val (.ref b66), .unset, .unset, .unset, .unset, .unset, .unset, .unset, .unset, .unset, .unset] [(.ref b58), (.ref b74), (.ref b74)])) _
          have f78 := ((((A58.keep Kc63).ext E66).keep Kc71).ext E74)
          obtain ⟨_, _, ⟨T79, L79, k79, n79⟩, -, X79, hS79, gr79, ⟨Lc79, hQ79, l79, y79, z79⟩, st79⟩ := X74.specialBackS hx (y := own_m8) rfl hown71 (mvT hZ71 (hw _ (List.mem_of_getElem? (i := 52) rfl))) (mvT hZ71 (hw _ (List.mem_of_getElem? (i := 53) rfl))) (mvT hZ71 (hw _ (List.mem_of_getElem? (i := 54) rfl))) (by decide) (backOfS (W := 1) (own_nmInit l Z a0 hw [] b74 b58 h74 n0 O75 A74 F74_symbol f78 (show n0 ≤ b74 by first | assumption | omega | decide)) hZ71 (hw _ (List.mem_of_getElem? (i := 54) rfl)) (hw _ (List.mem_of_getElem? (i := 51) rfl)) (by decide) (by decide)) (g := (mkF m 181 #[.val (.int x0), .val (.int x1), .val (.int x2), .val (.int x3), .val (.int x4), .val (.int x5), .val (.int z1), .val (.int z2), .val (.int (1 : Int32)), .val (.ref b4), .val (.ref b18), .val (.ref b36), .val (.ref b47), .val (.ref b58), .val (.ref b66), .unset, .unset, .unset, .unset, .unset, .unset, .unset, .unset, .unset, .unset] [(.ref b58), (.ref b74), (.ref b74)])) rfl (by rw [hml]; rfl) (Steps.refl _) (a := b74) (argsL := [(.ref b58)]) (rest := [(.ref b74)]) (lenOf own_pd_7 rfl) rfl (by show 2 * 0 + _ ≤ _; exact Nat.le_of_eq rfl) (hb hby at_181) (fun _ _ => ⟨rfl, e74, (by decide : 13 + 2 ≤ _), (by decide : 61 + 28 ≤ _)⟩)
          dsimp only [Pt.U, Pt.locs, Pt.cells, Pt.slots] at X79 l79 y79 z79 st79 hQ79 hS79 gr79
          subst l79 y79 z79
          obtain ⟨h79, e79⟩ : ∃ z, T79.heap = z := ⟨_, rfl⟩
          rw [e79] at hQ79 hS79 gr79
          obtain ⟨Nc79, Kc79, rfl, c79_0⟩ := hQ79
          obtain ⟨X79, hS79, hZ79, hown79⟩ := rebS (own := "com/example/breach_or_proof/breachorproof/NameEqualsPinLaw") hS71 (show _ ≤ T74.heap.size by rw [e74]; exact hk77) X79 hS79 gr79 hZ71 hown71
          have hk79 : h79.size ≤ h79.size := Nat.le_refl _
          have N79 := Fr.app N71 Nc79
          have O80 := O75.keep Kc79 (allS (show n0 ≤ b74 by omega) all0)
          have sz81 : h74.size ≤ h79.size := Kc79.1
          refine own_goS st79 ?_
          show own_Goes p e below (T79.setTop (mkF m 184 #[.val (.int x0), .val (.int x1), .val (.int x2), .val (.int x3), .val (.int x4), .val (.int x5), .val (.int z1), .val (.int z2), .val (.int (1 : Int32)), .val (.ref b4), .val (.ref b18), .val (.ref b36), .val (.ref b47), .val (.ref b58), .val (.ref b66), .unset, .unset, .unset, .unset, .unset, .unset, .unset, .unset, .unset, .unset] [(.ref b74)])) _
          refine own_go (fun t_ k_ => XS.astore X79.here hx rfl (hb hby at_184) rfl rfl (l' := #[.val (.int x0), .val (.int x1), .val (.int x2), .val (.int x3), .val (.int x4), .val (.int x5), .val (.int z1), .val (.int z2), .val (.int (1 : Int32)), .val (.ref b4), .val (.ref b18), .val (.ref b36), .val (.ref b47), .val (.ref b58), .val (.ref b66), .val (.ref b74), .unset, .unset, .unset, .unset, .unset, .unset, .unset, .unset, .unset]) rfl k_) ?_
          show own_Goes p e below (T79.setTop (mkF m 186 #[.val (.int x0), .val (.int x1), .val (.int x2), .val (.int x3), .val (.int x4), .val (.int x5), .val (.int z1), .val (.int z2), .val (.int (1 : Int32)), .val (.ref b4), .val (.ref b18), .val (.ref b36), .val (.ref b47), .val (.ref b58), .val (.ref b66), .val (.ref b74), .unset, .unset, .unset, .unset, .unset, .unset, .unset, .unset, .unset] [])) _
          obtain ⟨T82, h82, X82, e82, E82, A82, D82, -, st82⟩ := newO X79 hx hZ79 hown79 (hw _ (List.mem_of_getElem? (i := 49) rfl)) (hw _ (List.mem_of_getElem? (i := 50) rfl)) (hw _ (List.mem_of_getElem? (i := 51) rfl)) e79 (g := (mkF m 186 #[.val (.int x0), .val (.int x1), .val (.int x2), .val (.int x3), .val (.int x4), .val (.int x5), .val (.int z1), .val (.int z2), .val (.int (1 : Int32)), .val (.ref b4), .val (.ref b18), .val (.ref b36), .val (.ref b47), .val (.ref b58), .val (.ref b66), .val (.ref b74), .unset, .unset, .unset, .unset, .unset, .unset, .unset, .unset, .unset] [])) rfl (hb hby at_186) (by decide) (by decide)
          obtain ⟨b82, g82⟩ : ∃ z, z = h79.size := ⟨_, rfl⟩
          rw [← g82] at A82 D82 st82
          refine own_go st82 ?_
          have O83 := O80.ext E82
          have sz84 : h79.size ≤ h82.size := E82.1
          have hk85 := Nat.le_trans hk79 E82.1
          have l82 : b82 < h82.size := A82.lt
          have F82_symbol : Fld Z h82 b82 "com/example/breach_or_proof/breachorproof/Name" "symbol" "Lcom/example/breach_or_proof/breachorproof/NameSymbol;" .null := D82 (Or.inr (hw _ (List.mem_of_getElem? (i := 66) rfl))) (ty := (.object "com/example/breach_or_proof/breachorproof/NameSymbol")) (by decide)
          show own_Goes p e below (T82.setTop (mkF m 189 #[.val (.int x0), .val (.int x1), .val (.int x2), .val (.int x3), .val (.int x4), .val (.int x5), .val (.int z1), .val (.int z2), .val (.int (1 : Int32)), .val (.ref b4), .val (.ref b18), .val (.ref b36), .val (.ref b47), .val (.ref b58), .val (.ref b66), .val (.ref b74), .unset, .unset, .unset, .unset, .unset, .unset, .unset, .unset, .unset] [(.ref b82)])) _
          refine own_go (fun t_ k_ => XS.dup X82.here hx rfl (hb hby at_189) rfl rfl k_) ?_
          show own_Goes p e below (T82.setTop (mkF m 190 #[.val (.int x0), .val (.int x1), .val (.int x2), .val (.int x3), .val (.int x4), .val (.int x5), .val (.int z1), .val (.int z2), .val (.int (1 : Int32)), .val (.ref b4), .val (.ref b18), .val (.ref b36), .val (.ref b47), .val (.ref b58), .val (.ref b66), .val (.ref b74), .unset, .unset, .unset, .unset, .unset, .unset, .unset, .unset, .unset] [(.ref b82), (.ref b82)])) _
          refine own_go (fun t_ k_ => XS.aload X82.here hx rfl (hb hby at_190) rfl rfl k_) ?_
          show own_Goes p e below (T82.setTop (mkF m 192 #[.val (.int x0), .val (.int x1), .val (.int x2), .val (.int x3), .val (.int x4), .val (.int x5), .val (.int z1), .val (.int z2), .val (.int (1 : Int32)), .val (.ref b4), .val (.ref b18), .val (.ref b36), .val (.ref b47), .val (.ref b58), .val (.ref b66), .val (.ref b74), .unset, .unset, .unset, .unset, .unset, .unset, .unset, .unset, .unset] [(.ref b58), (.ref b82), (.ref b82)])) _
          have f86 := ((f78.keep Kc79).ext E82)
          obtain ⟨_, _, ⟨T87, L87, k87, n87⟩, -, X87, hS87, gr87, ⟨Lc87, hQ87, l87, y87, z87⟩, st87⟩ := X82.specialBackS hx (y := own_m8) rfl hown79 (mvT hZ79 (hw _ (List.mem_of_getElem? (i := 52) rfl))) (mvT hZ79 (hw _ (List.mem_of_getElem? (i := 53) rfl))) (mvT hZ79 (hw _ (List.mem_of_getElem? (i := 54) rfl))) (by decide) (backOfS (W := 1) (own_nmInit l Z a0 hw [] b82 b58 h82 n0 O83 A82 F82_symbol f86 (show n0 ≤ b82 by first | assumption | omega | decide)) hZ79 (hw _ (List.mem_of_getElem? (i := 54) rfl)) (hw _ (List.mem_of_getElem? (i := 51) rfl)) (by decide) (by decide)) (g := (mkF m 192 #[.val (.int x0), .val (.int x1), .val (.int x2), .val (.int x3), .val (.int x4), .val (.int x5), .val (.int z1), .val (.int z2), .val (.int (1 : Int32)), .val (.ref b4), .val (.ref b18), .val (.ref b36), .val (.ref b47), .val (.ref b58), .val (.ref b66), .val (.ref b74), .unset, .unset, .unset, .unset, .unset, .unset, .unset, .unset, .unset] [(.ref b58), (.ref b82), (.ref b82)])) rfl (by rw [hml]; rfl) (Steps.refl _) (a := b82) (argsL := [(.ref b58)]) (rest := [(.ref b82)]) (lenOf own_pd_7 rfl) rfl (by show 2 * 0 + _ ≤ _; exact Nat.le_of_eq rfl) (hb hby at_192) (fun _ _ => ⟨rfl, e82, (by decide : 16 + 2 ≤ _), (by decide : 90 + 28 ≤ _)⟩)
          dsimp only [Pt.U, Pt.locs, Pt.cells, Pt.slots] at X87 l87 y87 z87 st87 hQ87 hS87 gr87
          subst l87 y87 z87
          obtain ⟨h87, e87⟩ : ∃ z, T87.heap = z := ⟨_, rfl⟩
          rw [e87] at hQ87 hS87 gr87
          obtain ⟨Nc87, Kc87, rfl, c87_0⟩ := hQ87
          obtain ⟨X87, hS87, hZ87, hown87⟩ := rebS (own := "com/example/breach_or_proof/breachorproof/NameEqualsPinLaw") hS79 (show _ ≤ T82.heap.size by rw [e82]; exact hk85) X87 hS87 gr87 hZ79 hown79
          have hk87 : h87.size ≤ h87.size := Nat.le_refl _
          have N87 := Fr.app N79 Nc87
          have O88 := O83.keep Kc87 (allS (show n0 ≤ b82 by omega) all0)
          have sz89 : h82.size ≤ h87.size := Kc87.1
          refine own_goS st87 ?_
          show own_Goes p e below (T87.setTop (mkF m 195 #[.val (.int x0), .val (.int x1), .val (.int x2), .val (.int x3), .val (.int x4), .val (.int x5), .val (.int z1), .val (.int z2), .val (.int (1 : Int32)), .val (.ref b4), .val (.ref b18), .val (.ref b36), .val (.ref b47), .val (.ref b58), .val (.ref b66), .val (.ref b74), .unset, .unset, .unset, .unset, .unset, .unset, .unset, .unset, .unset] [(.ref b82)])) _
          refine own_go (fun t_ k_ => XS.astore X87.here hx rfl (hb hby at_195) rfl rfl (l' := #[.val (.int x0), .val (.int x1), .val (.int x2), .val (.int x3), .val (.int x4), .val (.int x5), .val (.int z1), .val (.int z2), .val (.int (1 : Int32)), .val (.ref b4), .val (.ref b18), .val (.ref b36), .val (.ref b47), .val (.ref b58), .val (.ref b66), .val (.ref b74), .val (.ref b82), .unset, .unset, .unset, .unset, .unset, .unset, .unset, .unset]) rfl k_) ?_
          show own_Goes p e below (T87.setTop (mkF m 197 #[.val (.int x0), .val (.int x1), .val (.int x2), .val (.int x3), .val (.int x4), .val (.int x5), .val (.int z1), .val (.int z2), .val (.int (1 : Int32)), .val (.ref b4), .val (.ref b18), .val (.ref b36), .val (.ref b47), .val (.ref b58), .val (.ref b66), .val (.ref b74), .val (.ref b82), .unset, .unset, .unset, .unset, .unset, .unset, .unset, .unset] [])) _
          obtain ⟨T90, h90, X90, e90, E90, A90, D90, -, st90⟩ := newO X87 hx hZ87 hown87 (hw _ (List.mem_of_getElem? (i := 49) rfl)) (hw _ (List.mem_of_getElem? (i := 50) rfl)) (hw _ (List.mem_of_getElem? (i := 51) rfl)) e87 (g := (mkF m 197 #[.val (.int x0), .val (.int x1), .val (.int x2), .val (.int x3), .val (.int x4), .val (.int x5), .val (.int z1), .val (.int z2), .val (.int (1 : Int32)), .val (.ref b4), .val (.ref b18), .val (.ref b36), .val (.ref b47), .val (.ref b58), .val (.ref b66), .val (.ref b74), .val (.ref b82), .unset, .unset, .unset, .unset, .unset, .unset, .unset, .unset] [])) rfl (hb hby at_197) (by decide) (by decide)
          obtain ⟨b90, g90⟩ : ∃ z, z = h87.size := ⟨_, rfl⟩
          rw [← g90] at A90 D90 st90
          refine own_go st90 ?_
          have O91 := O88.ext E90
          have sz92 : h87.size ≤ h90.size := E90.1
          have hk93 := Nat.le_trans hk87 E90.1
          have l90 : b90 < h90.size := A90.lt
          have F90_symbol : Fld Z h90 b90 "com/example/breach_or_proof/breachorproof/Name" "symbol" "Lcom/example/breach_or_proof/breachorproof/NameSymbol;" .null := D90 (Or.inr (hw _ (List.mem_of_getElem? (i := 66) rfl))) (ty := (.object "com/example/breach_or_proof/breachorproof/NameSymbol")) (by decide)
          show own_Goes p e below (T90.setTop (mkF m 200 #[.val (.int x0), .val (.int x1), .val (.int x2), .val (.int x3), .val (.int x4), .val (.int x5), .val (.int z1), .val (.int z2), .val (.int (1 : Int32)), .val (.ref b4), .val (.ref b18), .val (.ref b36), .val (.ref b47), .val (.ref b58), .val (.ref b66), .val (.ref b74), .val (.ref b82), .unset, .unset, .unset, .unset, .unset, .unset, .unset, .unset] [(.ref b90)])) _
          refine own_go (fun t_ k_ => XS.dup X90.here hx rfl (hb hby at_200) rfl rfl k_) ?_
          show own_Goes p e below (T90.setTop (mkF m 201 #[.val (.int x0), .val (.int x1), .val (.int x2), .val (.int x3), .val (.int x4), .val (.int x5), .val (.int z1), .val (.int z2), .val (.int (1 : Int32)), .val (.ref b4), .val (.ref b18), .val (.ref b36), .val (.ref b47), .val (.ref b58), .val (.ref b66), .val (.ref b74), .val (.ref b82), .unset, .unset, .unset, .unset, .unset, .unset, .unset, .unset] [(.ref b90), (.ref b90)])) _
          refine own_go (fun t_ k_ => XS.aload X90.here hx rfl (hb hby at_201) rfl rfl k_) ?_
          show own_Goes p e below (T90.setTop (mkF m 203 #[.val (.int x0), .val (.int x1), .val (.int x2), .val (.int x3), .val (.int x4), .val (.int x5), .val (.int z1), .val (.int z2), .val (.int (1 : Int32)), .val (.ref b4), .val (.ref b18), .val (.ref b36), .val (.ref b47), .val (.ref b58), .val (.ref b66), .val (.ref b74), .val (.ref b82), .unset, .unset, .unset, .unset, .unset, .unset, .unset, .unset] [(.ref b66), (.ref b90), (.ref b90)])) _
          have f94 := ((((((A66.keep Kc71).ext E74).keep Kc79).ext E82).keep Kc87).ext E90)
          obtain ⟨_, _, ⟨T95, L95, k95, n95⟩, -, X95, hS95, gr95, ⟨Lc95, hQ95, l95, y95, z95⟩, st95⟩ := X90.specialBackS hx (y := own_m8) rfl hown87 (mvT hZ87 (hw _ (List.mem_of_getElem? (i := 52) rfl))) (mvT hZ87 (hw _ (List.mem_of_getElem? (i := 53) rfl))) (mvT hZ87 (hw _ (List.mem_of_getElem? (i := 54) rfl))) (by decide) (backOfS (W := 1) (own_nmInit l Z a0 hw [] b90 b66 h90 n0 O91 A90 F90_symbol f94 (show n0 ≤ b90 by first | assumption | omega | decide)) hZ87 (hw _ (List.mem_of_getElem? (i := 54) rfl)) (hw _ (List.mem_of_getElem? (i := 51) rfl)) (by decide) (by decide)) (g := (mkF m 203 #[.val (.int x0), .val (.int x1), .val (.int x2), .val (.int x3), .val (.int x4), .val (.int x5), .val (.int z1), .val (.int z2), .val (.int (1 : Int32)), .val (.ref b4), .val (.ref b18), .val (.ref b36), .val (.ref b47), .val (.ref b58), .val (.ref b66), .val (.ref b74), .val (.ref b82), .unset, .unset, .unset, .unset, .unset, .unset, .unset, .unset] [(.ref b66), (.ref b90), (.ref b90)])) rfl (by rw [hml]; rfl) (Steps.refl _) (a := b90) (argsL := [(.ref b66)]) (rest := [(.ref b90)]) (lenOf own_pd_7 rfl) rfl (by show 2 * 0 + _ ≤ _; exact Nat.le_of_eq rfl) (hb hby at_203) (fun _ _ => ⟨rfl, e90, (by decide : 19 + 2 ≤ _), (by decide : 119 + 28 ≤ _)⟩)
          dsimp only [Pt.U, Pt.locs, Pt.cells, Pt.slots] at X95 l95 y95 z95 st95 hQ95 hS95 gr95
          subst l95 y95 z95
          obtain ⟨h95, e95⟩ : ∃ z, T95.heap = z := ⟨_, rfl⟩
          rw [e95] at hQ95 hS95 gr95
          obtain ⟨Nc95, Kc95, rfl, c95_0⟩ := hQ95
          obtain ⟨X95, hS95, hZ95, hown95⟩ := rebS (own := "com/example/breach_or_proof/breachorproof/NameEqualsPinLaw") hS87 (show _ ≤ T90.heap.size by rw [e90]; exact hk93) X95 hS95 gr95 hZ87 hown87
          have hk95 : h95.size ≤ h95.size := Nat.le_refl _
          have N95 := Fr.app N87 Nc95
          have O96 := O91.keep Kc95 (allS (show n0 ≤ b90 by omega) all0)
          have sz97 : h90.size ≤ h95.size := Kc95.1
          refine own_goS st95 ?_
          show own_Goes p e below (T95.setTop (mkF m 206 #[.val (.int x0), .val (.int x1), .val (.int x2), .val (.int x3), .val (.int x4), .val (.int x5), .val (.int z1), .val (.int z2), .val (.int (1 : Int32)), .val (.ref b4), .val (.ref b18), .val (.ref b36), .val (.ref b47), .val (.ref b58), .val (.ref b66), .val (.ref b74), .val (.ref b82), .unset, .unset, .unset, .unset, .unset, .unset, .unset, .unset] [(.ref b90)])) _
          refine own_go (fun t_ k_ => XS.astore X95.here hx rfl (hb hby at_206) rfl rfl (l' := #[.val (.int x0), .val (.int x1), .val (.int x2), .val (.int x3), .val (.int x4), .val (.int x5), .val (.int z1), .val (.int z2), .val (.int (1 : Int32)), .val (.ref b4), .val (.ref b18), .val (.ref b36), .val (.ref b47), .val (.ref b58), .val (.ref b66), .val (.ref b74), .val (.ref b82), .val (.ref b90), .unset, .unset, .unset, .unset, .unset, .unset, .unset]) rfl k_) ?_
          show own_Goes p e below (T95.setTop (mkF m 208 #[.val (.int x0), .val (.int x1), .val (.int x2), .val (.int x3), .val (.int x4), .val (.int x5), .val (.int z1), .val (.int z2), .val (.int (1 : Int32)), .val (.ref b4), .val (.ref b18), .val (.ref b36), .val (.ref b47), .val (.ref b58), .val (.ref b66), .val (.ref b74), .val (.ref b82), .val (.ref b90), .unset, .unset, .unset, .unset, .unset, .unset, .unset] [])) _
          obtain ⟨T98, h98, X98, e98, E98, A98, D98, -, st98⟩ := newO X95 hx hZ95 hown95 (hw _ (List.mem_of_getElem? (i := 67) rfl)) (hw _ (List.mem_of_getElem? (i := 68) rfl)) (hw _ (List.mem_of_getElem? (i := 69) rfl)) e95 (g := (mkF m 208 #[.val (.int x0), .val (.int x1), .val (.int x2), .val (.int x3), .val (.int x4), .val (.int x5), .val (.int z1), .val (.int z2), .val (.int (1 : Int32)), .val (.ref b4), .val (.ref b18), .val (.ref b36), .val (.ref b47), .val (.ref b58), .val (.ref b66), .val (.ref b74), .val (.ref b82), .val (.ref b90), .unset, .unset, .unset, .unset, .unset, .unset, .unset] [])) rfl (hb hby at_208) (by decide) (by decide)
          obtain ⟨b98, g98⟩ : ∃ z, z = h95.size := ⟨_, rfl⟩
          rw [← g98] at A98 D98 st98
          refine own_go st98 ?_
          have O99 := O96.ext E98
          have sz100 : h95.size ≤ h98.size := E98.1
          have hk101 := Nat.le_trans hk95 E98.1
          have l98 : b98 < h98.size := A98.lt
          have F98_name : Fld Z h98 b98 "com/example/breach_or_proof/breachorproof/Variable" "name" "Ljava/lang/String;" .null := D98 (Or.inr (hw _ (List.mem_of_getElem? (i := 78) rfl))) (ty := (.object "java/lang/String")) (by decide)
          show own_Goes p e below (T98.setTop (mkF m 211 #[.val (.int x0), .val (.int x1), .val (.int x2), .val (.int x3), .val (.int x4), .val (.int x5), .val (.int z1), .val (.int z2), .val (.int (1 : Int32)), .val (.ref b4), .val (.ref b18), .val (.ref b36), .val (.ref b47), .val (.ref b58), .val (.ref b66), .val (.ref b74), .val (.ref b82), .val (.ref b90), .unset, .unset, .unset, .unset, .unset, .unset, .unset] [(.ref b98)])) _
          refine own_go (fun t_ k_ => XS.dup X98.here hx rfl (hb hby at_211) rfl rfl k_) ?_
          show own_Goes p e below (T98.setTop (mkF m 212 #[.val (.int x0), .val (.int x1), .val (.int x2), .val (.int x3), .val (.int x4), .val (.int x5), .val (.int z1), .val (.int z2), .val (.int (1 : Int32)), .val (.ref b4), .val (.ref b18), .val (.ref b36), .val (.ref b47), .val (.ref b58), .val (.ref b66), .val (.ref b74), .val (.ref b82), .val (.ref b90), .unset, .unset, .unset, .unset, .unset, .unset, .unset] [(.ref b98), (.ref b98)])) _
          refine own_go (fun t_ k_ => XS.aload X98.here hx rfl (hb hby at_212) rfl rfl k_) ?_
          show own_Goes p e below (T98.setTop (mkF m 214 #[.val (.int x0), .val (.int x1), .val (.int x2), .val (.int x3), .val (.int x4), .val (.int x5), .val (.int z1), .val (.int z2), .val (.int (1 : Int32)), .val (.ref b4), .val (.ref b18), .val (.ref b36), .val (.ref b47), .val (.ref b58), .val (.ref b66), .val (.ref b74), .val (.ref b82), .val (.ref b90), .unset, .unset, .unset, .unset, .unset, .unset, .unset] [(.ref b36), (.ref b98), (.ref b98)])) _
          have f102 := ((((((((((f62.keep Kc63).ext E66).keep Kc71).ext E74).keep Kc79).ext E82).keep Kc87).ext E90).keep Kc95).ext E98)
          obtain ⟨_, _, ⟨T103, L103, k103, n103⟩, -, X103, hS103, gr103, ⟨Lc103, hQ103, l103, y103, z103⟩, st103⟩ := X98.specialBackS hx (y := own_m10) rfl hown95 (mvT hZ95 (hw _ (List.mem_of_getElem? (i := 70) rfl))) (mvT hZ95 (hw _ (List.mem_of_getElem? (i := 71) rfl))) (mvT hZ95 (hw _ (List.mem_of_getElem? (i := 72) rfl))) (by decide) (backOfS (W := 1) (own_vrInit l Z a0 hw [] b98 b36 h98 n0 O99 A98 F98_name f102 (show n0 ≤ b98 by first | assumption | omega | decide)) hZ95 (hw _ (List.mem_of_getElem? (i := 72) rfl)) (hw _ (List.mem_of_getElem? (i := 69) rfl)) (by decide) (by decide)) (g := (mkF m 214 #[.val (.int x0), .val (.int x1), .val (.int x2), .val (.int x3), .val (.int x4), .val (.int x5), .val (.int z1), .val (.int z2), .val (.int (1 : Int32)), .val (.ref b4), .val (.ref b18), .val (.ref b36), .val (.ref b47), .val (.ref b58), .val (.ref b66), .val (.ref b74), .val (.ref b82), .val (.ref b90), .unset, .unset, .unset, .unset, .unset, .unset, .unset] [(.ref b36), (.ref b98), (.ref b98)])) rfl (by rw [hml]; rfl) (Steps.refl _) (a := b98) (argsL := [(.ref b36)]) (rest := [(.ref b98)]) (lenOf own_pd_9 rfl) rfl (by show 2 * 0 + _ ≤ _; exact Nat.le_of_eq rfl) (hb hby at_214) (fun _ _ => ⟨rfl, e98, (by decide : 22 + 2 ≤ _), (by decide : 148 + 20 ≤ _)⟩)
          dsimp only [Pt.U, Pt.locs, Pt.cells, Pt.slots] at X103 l103 y103 z103 st103 hQ103 hS103 gr103
          subst l103 y103 z103
          obtain ⟨h103, e103⟩ : ∃ z, T103.heap = z := ⟨_, rfl⟩
          rw [e103] at hQ103 hS103 gr103
          obtain ⟨Nc103, Kc103, rfl⟩ := hQ103
          obtain ⟨X103, hS103, hZ103, hown103⟩ := rebS (own := "com/example/breach_or_proof/breachorproof/NameEqualsPinLaw") hS95 (show _ ≤ T98.heap.size by rw [e98]; exact hk101) X103 hS103 gr103 hZ95 hown95
          have hk103 : h103.size ≤ h103.size := Nat.le_refl _
          have N103 := Fr.app N95 Nc103
          have O104 := O99.keep Kc103 (allS (show n0 ≤ b98 by omega) all0)
          have sz105 : h98.size ≤ h103.size := Kc103.1
          refine own_goS st103 ?_
          show own_Goes p e below (T103.setTop (mkF m 217 #[.val (.int x0), .val (.int x1), .val (.int x2), .val (.int x3), .val (.int x4), .val (.int x5), .val (.int z1), .val (.int z2), .val (.int (1 : Int32)), .val (.ref b4), .val (.ref b18), .val (.ref b36), .val (.ref b47), .val (.ref b58), .val (.ref b66), .val (.ref b74), .val (.ref b82), .val (.ref b90), .unset, .unset, .unset, .unset, .unset, .unset, .unset] [(.ref b98)])) _
          refine own_go (fun t_ k_ => XS.astore X103.here hx rfl (hb hby at_217) rfl rfl (l' := #[.val (.int x0), .val (.int x1), .val (.int x2), .val (.int x3), .val (.int x4), .val (.int x5), .val (.int z1), .val (.int z2), .val (.int (1 : Int32)), .val (.ref b4), .val (.ref b18), .val (.ref b36), .val (.ref b47), .val (.ref b58), .val (.ref b66), .val (.ref b74), .val (.ref b82), .val (.ref b90), .val (.ref b98), .unset, .unset, .unset, .unset, .unset, .unset]) rfl k_) ?_
          show own_Goes p e below (T103.setTop (mkF m 219 #[.val (.int x0), .val (.int x1), .val (.int x2), .val (.int x3), .val (.int x4), .val (.int x5), .val (.int z1), .val (.int z2), .val (.int (1 : Int32)), .val (.ref b4), .val (.ref b18), .val (.ref b36), .val (.ref b47), .val (.ref b58), .val (.ref b66), .val (.ref b74), .val (.ref b82), .val (.ref b90), .val (.ref b98), .unset, .unset, .unset, .unset, .unset, .unset] [])) _
          refine own_go (fun t_ k_ => XS.iloadN X103.here hx rfl (hb hby at_219) rfl k_) ?_
          show own_Goes p e below (T103.setTop (mkF m 220 #[.val (.int x0), .val (.int x1), .val (.int x2), .val (.int x3), .val (.int x4), .val (.int x5), .val (.int z1), .val (.int z2), .val (.int (1 : Int32)), .val (.ref b4), .val (.ref b18), .val (.ref b36), .val (.ref b47), .val (.ref b58), .val (.ref b66), .val (.ref b74), .val (.ref b82), .val (.ref b90), .val (.ref b98), .unset, .unset, .unset, .unset, .unset, .unset] [(.int x0)])) _
          refine own_go (fun t_ k_ => Jvm.Stand.ldcI X103 hx hown103 (mv hZ103 (hw _ (List.mem_of_getElem? (i := 79) rfl))) rfl (hb hby at_220) k_) ?_
          show own_Goes p e below (T103.setTop (mkF m 222 #[.val (.int x0), .val (.int x1), .val (.int x2), .val (.int x3), .val (.int x4), .val (.int x5), .val (.int z1), .val (.int z2), .val (.int (1 : Int32)), .val (.ref b4), .val (.ref b18), .val (.ref b36), .val (.ref b47), .val (.ref b58), .val (.ref b66), .val (.ref b74), .val (.ref b82), .val (.ref b90), .val (.ref b98), .unset, .unset, .unset, .unset, .unset, .unset] [(.int (2147483647 : Int32)), (.int x0)])) _
          refine own_go (fun t_ k_ => XS.iand X103.here hx rfl (hb hby at_222) rfl k_) ?_
          show own_Goes p e below (T103.setTop (mkF m 223 #[.val (.int x0), .val (.int x1), .val (.int x2), .val (.int x3), .val (.int x4), .val (.int x5), .val (.int z1), .val (.int z2), .val (.int (1 : Int32)), .val (.ref b4), .val (.ref b18), .val (.ref b36), .val (.ref b47), .val (.ref b58), .val (.ref b66), .val (.ref b74), .val (.ref b82), .val (.ref b90), .val (.ref b98), .unset, .unset, .unset, .unset, .unset, .unset] [(.int (x0 &&& (2147483647 : Int32)))])) _
          refine own_go (fun t_ k_ => XS.bipush X103.here hx rfl (hb hby at_223) k_) ?_
          show own_Goes p e below (T103.setTop (mkF m 225 #[.val (.int x0), .val (.int x1), .val (.int x2), .val (.int x3), .val (.int x4), .val (.int x5), .val (.int z1), .val (.int z2), .val (.int (1 : Int32)), .val (.ref b4), .val (.ref b18), .val (.ref b36), .val (.ref b47), .val (.ref b58), .val (.ref b66), .val (.ref b74), .val (.ref b82), .val (.ref b90), .val (.ref b98), .unset, .unset, .unset, .unset, .unset, .unset] [(.int (7 : Int32)), (.int (x0 &&& (2147483647 : Int32)))])) _
          refine own_go (fun t_ k_ => iremM X103 hx rfl (hb hby at_225) rfl (by decide) k_) ?_
          show own_Goes p e below (T103.setTop (mkF m 226 #[.val (.int x0), .val (.int x1), .val (.int x2), .val (.int x3), .val (.int x4), .val (.int x5), .val (.int z1), .val (.int z2), .val (.int (1 : Int32)), .val (.ref b4), .val (.ref b18), .val (.ref b36), .val (.ref b47), .val (.ref b58), .val (.ref b66), .val (.ref b74), .val (.ref b82), .val (.ref b90), .val (.ref b98), .unset, .unset, .unset, .unset, .unset, .unset] [(.int ((x0 &&& (2147483647 : Int32)) % (7 : Int32)))])) _
          refine own_go (fun t_ k_ => XS.istore X103.here hx rfl (hb hby at_226) rfl (l' := #[.val (.int x0), .val (.int x1), .val (.int x2), .val (.int x3), .val (.int x4), .val (.int x5), .val (.int z1), .val (.int z2), .val (.int (1 : Int32)), .val (.ref b4), .val (.ref b18), .val (.ref b36), .val (.ref b47), .val (.ref b58), .val (.ref b66), .val (.ref b74), .val (.ref b82), .val (.ref b90), .val (.ref b98), .val (.int ((x0 &&& (2147483647 : Int32)) % (7 : Int32))), .unset, .unset, .unset, .unset, .unset]) rfl k_) ?_
          show own_Goes p e below (T103.setTop (mkF m 228 #[.val (.int x0), .val (.int x1), .val (.int x2), .val (.int x3), .val (.int x4), .val (.int x5), .val (.int z1), .val (.int z2), .val (.int (1 : Int32)), .val (.ref b4), .val (.ref b18), .val (.ref b36), .val (.ref b47), .val (.ref b58), .val (.ref b66), .val (.ref b74), .val (.ref b82), .val (.ref b90), .val (.ref b98), .val (.int ((x0 &&& (2147483647 : Int32)) % (7 : Int32))), .unset, .unset, .unset, .unset, .unset] [])) _
          refine own_go (fun t_ k_ => XS.iload X103.here hx rfl (hb hby at_228) rfl k_) ?_
          show own_Goes p e below (T103.setTop (mkF m 230 #[.val (.int x0), .val (.int x1), .val (.int x2), .val (.int x3), .val (.int x4), .val (.int x5), .val (.int z1), .val (.int z2), .val (.int (1 : Int32)), .val (.ref b4), .val (.ref b18), .val (.ref b36), .val (.ref b47), .val (.ref b58), .val (.ref b66), .val (.ref b74), .val (.ref b82), .val (.ref b90), .val (.ref b98), .val (.int ((x0 &&& (2147483647 : Int32)) % (7 : Int32))), .unset, .unset, .unset, .unset, .unset] [(.int ((x0 &&& (2147483647 : Int32)) % (7 : Int32)))])) _
          by_cases hc106 : ((x0 &&& (2147483647 : Int32)) % (7 : Int32)) = (0 : Int32)
          · refine own_go (fun t_ k_ => XS.ifNo X103.here hx rfl (hb hby at_230) rfl ((if0 _ _).trans (teq hc106).2) k_) ?_
            show own_Goes p e below (T103.setTop (mkF m 233 #[.val (.int x0), .val (.int x1), .val (.int x2), .val (.int x3), .val (.int x4), .val (.int x5), .val (.int z1), .val (.int z2), .val (.int (1 : Int32)), .val (.ref b4), .val (.ref b18), .val (.ref b36), .val (.ref b47), .val (.ref b58), .val (.ref b66), .val (.ref b74), .val (.ref b82), .val (.ref b90), .val (.ref b98), .val (.int ((x0 &&& (2147483647 : Int32)) % (7 : Int32))), .unset, .unset, .unset, .unset, .unset] [])) _
            refine own_go (fun t_ k_ => XS.aload X103.here hx rfl (hb hby at_233) rfl rfl k_) ?_
            show own_Goes p e below (T103.setTop (mkF m 235 #[.val (.int x0), .val (.int x1), .val (.int x2), .val (.int x3), .val (.int x4), .val (.int x5), .val (.int z1), .val (.int z2), .val (.int (1 : Int32)), .val (.ref b4), .val (.ref b18), .val (.ref b36), .val (.ref b47), .val (.ref b58), .val (.ref b66), .val (.ref b74), .val (.ref b82), .val (.ref b90), .val (.ref b98), .val (.int ((x0 &&& (2147483647 : Int32)) % (7 : Int32))), .unset, .unset, .unset, .unset, .unset] [(.ref b82)])) _
            refine own_go (fun t_ k_ => XS.astore X103.here hx rfl (hb hby at_235) rfl rfl (l' := #[.val (.int x0), .val (.int x1), .val (.int x2), .val (.int x3), .val (.int x4), .val (.int x5), .val (.int z1), .val (.int z2), .val (.int (1 : Int32)), .val (.ref b4), .val (.ref b18), .val (.ref b36), .val (.ref b47), .val (.ref b58), .val (.ref b66), .val (.ref b74), .val (.ref b82), .val (.ref b90), .val (.ref b98), .val (.int ((x0 &&& (2147483647 : Int32)) % (7 : Int32))), .val (.ref b82), .unset, .unset, .unset, .unset]) rfl k_) ?_
            show own_Goes p e below (T103.setTop (mkF m 237 #[.val (.int x0), .val (.int x1), .val (.int x2), .val (.int x3), .val (.int x4), .val (.int x5), .val (.int z1), .val (.int z2), .val (.int (1 : Int32)), .val (.ref b4), .val (.ref b18), .val (.ref b36), .val (.ref b47), .val (.ref b58), .val (.ref b66), .val (.ref b74), .val (.ref b82), .val (.ref b90), .val (.ref b98), .val (.int ((x0 &&& (2147483647 : Int32)) % (7 : Int32))), .val (.ref b82), .unset, .unset, .unset, .unset] [])) _
            refine own_go (fun t_ k_ => XS.iconst X103.here hx rfl (hb hby at_237) k_) ?_
            show own_Goes p e below (T103.setTop (mkF m 238 #[.val (.int x0), .val (.int x1), .val (.int x2), .val (.int x3), .val (.int x4), .val (.int x5), .val (.int z1), .val (.int z2), .val (.int (1 : Int32)), .val (.ref b4), .val (.ref b18), .val (.ref b36), .val (.ref b47), .val (.ref b58), .val (.ref b66), .val (.ref b74), .val (.ref b82), .val (.ref b90), .val (.ref b98), .val (.int ((x0 &&& (2147483647 : Int32)) % (7 : Int32))), .val (.ref b82), .unset, .unset, .unset, .unset] [(.int (1 : Int32))])) _
            refine own_go (fun t_ k_ => XS.istore X103.here hx rfl (hb hby at_238) rfl (l' := #[.val (.int x0), .val (.int x1), .val (.int x2), .val (.int x3), .val (.int x4), .val (.int x5), .val (.int z1), .val (.int z2), .val (.int (1 : Int32)), .val (.ref b4), .val (.ref b18), .val (.ref b36), .val (.ref b47), .val (.ref b58), .val (.ref b66), .val (.ref b74), .val (.ref b82), .val (.ref b90), .val (.ref b98), .val (.int ((x0 &&& (2147483647 : Int32)) % (7 : Int32))), .val (.ref b82), .val (.int (1 : Int32)), .unset, .unset, .unset]) rfl k_) ?_
            show own_Goes p e below (T103.setTop (mkF m 240 #[.val (.int x0), .val (.int x1), .val (.int x2), .val (.int x3), .val (.int x4), .val (.int x5), .val (.int z1), .val (.int z2), .val (.int (1 : Int32)), .val (.ref b4), .val (.ref b18), .val (.ref b36), .val (.ref b47), .val (.ref b58), .val (.ref b66), .val (.ref b74), .val (.ref b82), .val (.ref b90), .val (.ref b98), .val (.int ((x0 &&& (2147483647 : Int32)) % (7 : Int32))), .val (.ref b82), .val (.int (1 : Int32)), .unset, .unset, .unset] [])) _
            refine own_go (fun t_ k_ => XS.goto X103.here hx rfl (pc0 := 240) (pc' := 329) rfl (hb hby at_240) (by decide) (by decide) k_) ?_
            show own_Goes p e below (T103.setTop (mkF m 329 #[.val (.int x0), .val (.int x1), .val (.int x2), .val (.int x3), .val (.int x4), .val (.int x5), .val (.int z1), .val (.int z2), .val (.int (1 : Int32)), .val (.ref b4), .val (.ref b18), .val (.ref b36), .val (.ref b47), .val (.ref b58), .val (.ref b66), .val (.ref b74), .val (.ref b82), .val (.ref b90), .val (.ref b98), .val (.int ((x0 &&& (2147483647 : Int32)) % (7 : Int32))), .val (.ref b82), .val (.int (1 : Int32)), .unset, .unset, .unset] [])) _
            refine own_go (fun t_ k_ => XS.aload X103.here hx rfl (hb hby at_329) rfl rfl k_) ?_
            show own_Goes p e below (T103.setTop (mkF m 331 #[.val (.int x0), .val (.int x1), .val (.int x2), .val (.int x3), .val (.int x4), .val (.int x5), .val (.int z1), .val (.int z2), .val (.int (1 : Int32)), .val (.ref b4), .val (.ref b18), .val (.ref b36), .val (.ref b47), .val (.ref b58), .val (.ref b66), .val (.ref b74), .val (.ref b82), .val (.ref b90), .val (.ref b98), .val (.int ((x0 &&& (2147483647 : Int32)) % (7 : Int32))), .val (.ref b82), .val (.int (1 : Int32)), .unset, .unset, .unset] [(.ref b74)])) _
            refine own_go (fun t_ k_ => XS.aload X103.here hx rfl (hb hby at_331) rfl rfl k_) ?_
            show own_Goes p e below (T103.setTop (mkF m 333 #[.val (.int x0), .val (.int x1), .val (.int x2), .val (.int x3), .val (.int x4), .val (.int x5), .val (.int z1), .val (.int z2), .val (.int (1 : Int32)), .val (.ref b4), .val (.ref b18), .val (.ref b36), .val (.ref b47), .val (.ref b58), .val (.ref b66), .val (.ref b74), .val (.ref b82), .val (.ref b90), .val (.ref b98), .val (.int ((x0 &&& (2147483647 : Int32)) % (7 : Int32))), .val (.ref b82), .val (.int (1 : Int32)), .unset, .unset, .unset] [(.ref b82), (.ref b74)])) _
            have f107 := (((((A82.keep Kc87).ext E90).keep Kc95).ext E98).keep Kc103)
            have f108 := ((((((c79_0.ext E82).keep Kc87 (ninS (own_ne (a := b74) (b := b82) (by omega)) nin0)).ext E90).keep Kc95 (ninS (own_ne (a := b74) (b := b90) (by omega)) nin0)).ext E98).keep Kc103 (ninS (own_ne (a := b74) (b := b98) (by omega)) nin0))
            have f109 := ((((c87_0.ext E90).keep Kc95 (ninS (own_ne (a := b82) (b := b90) (by omega)) nin0)).ext E98).keep Kc103 (ninS (own_ne (a := b82) (b := b98) (by omega)) nin0))
            have f110 := (((((((A74.keep Kc79).ext E82).keep Kc87).ext E90).keep Kc95).ext E98).keep Kc103)
            obtain ⟨cqiv111, kqiv111, qiv111a, qiv111b, qiv111c⟩ := isOf hZ103 e103 f110
            obtain ⟨_, _, ⟨T112, L112, k112, n112⟩, -, X112, ⟨Lc112, hQ112, l112, y112, z112⟩, st112⟩ := X103.virtualBack hx (y := own_m12) (z := own_m12) hown103 (mvT hZ103 (hw _ (List.mem_of_getElem? (i := 80) rfl))) (mvT hZ103 (hw _ (List.mem_of_getElem? (i := 81) rfl))) (notFace_of_selects (args := #[]) (mvT hZ103 (hw _ (List.mem_of_getElem? (i := 83) rfl)))) (mvT hZ103 (hw _ (List.mem_of_getElem? (i := 83) rfl))) (mvT hZ103 (hw _ (List.mem_of_getElem? (i := 82) rfl))) (by decide) (backOf (W := 0) (own_eqT l Z a0 hw [] b74 b82 b58 h103 n0 O104 f107 f108 f109) hZ103 (hw _ (List.mem_of_getElem? (i := 84) rfl)) (hw _ (List.mem_of_getElem? (i := 51) rfl)) (by decide) (by decide)) qiv111a qiv111c (g := (mkF m 333 #[.val (.int x0), .val (.int x1), .val (.int x2), .val (.int x3), .val (.int x4), .val (.int x5), .val (.int z1), .val (.int z2), .val (.int (1 : Int32)), .val (.ref b4), .val (.ref b18), .val (.ref b36), .val (.ref b47), .val (.ref b58), .val (.ref b66), .val (.ref b74), .val (.ref b82), .val (.ref b90), .val (.ref b98), .val (.int ((x0 &&& (2147483647 : Int32)) % (7 : Int32))), .val (.ref b82), .val (.int (1 : Int32)), .unset, .unset, .unset] [(.ref b82), (.ref b74)])) rfl (by rw [hml]; rfl) (Steps.refl _) (argsL := [(.ref b82)]) (rest := []) (lenOf own_pd_11 rfl) rfl (by show 2 * 0 + _ ≤ _; exact Nat.le_of_eq rfl) (hb hby at_333) (fun _ _ => ⟨rfl, e103, (by decide : 24 + 0 ≤ _), (by decide : 168 + 0 ≤ _)⟩)
            dsimp only [Pt.U, Pt.locs, Pt.cells, Pt.slots] at X112 l112 y112 z112 st112 hQ112
            subst l112 y112 z112
            obtain ⟨Nc112, e112, rfl⟩ := hQ112
            have N112 := Fr.app N103 Nc112
            refine own_goS st112 ?_
            show own_Goes p e below (T112.setTop (mkF m 336 #[.val (.int x0), .val (.int x1), .val (.int x2), .val (.int x3), .val (.int x4), .val (.int x5), .val (.int z1), .val (.int z2), .val (.int (1 : Int32)), .val (.ref b4), .val (.ref b18), .val (.ref b36), .val (.ref b47), .val (.ref b58), .val (.ref b66), .val (.ref b74), .val (.ref b82), .val (.ref b90), .val (.ref b98), .val (.int ((x0 &&& (2147483647 : Int32)) % (7 : Int32))), .val (.ref b82), .val (.int (1 : Int32)), .unset, .unset, .unset] [(.int (1 : Int32))])) _
            refine own_go (fun t_ k_ => XS.istore X112.here hx rfl (hb hby at_336) rfl (l' := #[.val (.int x0), .val (.int x1), .val (.int x2), .val (.int x3), .val (.int x4), .val (.int x5), .val (.int z1), .val (.int z2), .val (.int (1 : Int32)), .val (.ref b4), .val (.ref b18), .val (.ref b36), .val (.ref b47), .val (.ref b58), .val (.ref b66), .val (.ref b74), .val (.ref b82), .val (.ref b90), .val (.ref b98), .val (.int ((x0 &&& (2147483647 : Int32)) % (7 : Int32))), .val (.ref b82), .val (.int (1 : Int32)), .val (.int (1 : Int32)), .unset, .unset]) rfl k_) ?_
            show own_Goes p e below (T112.setTop (mkF m 338 #[.val (.int x0), .val (.int x1), .val (.int x2), .val (.int x3), .val (.int x4), .val (.int x5), .val (.int z1), .val (.int z2), .val (.int (1 : Int32)), .val (.ref b4), .val (.ref b18), .val (.ref b36), .val (.ref b47), .val (.ref b58), .val (.ref b66), .val (.ref b74), .val (.ref b82), .val (.ref b90), .val (.ref b98), .val (.int ((x0 &&& (2147483647 : Int32)) % (7 : Int32))), .val (.ref b82), .val (.int (1 : Int32)), .val (.int (1 : Int32)), .unset, .unset] [])) _
            refine own_go (fun t_ k_ => XS.aload X112.here hx rfl (hb hby at_338) rfl rfl k_) ?_
            show own_Goes p e below (T112.setTop (mkF m 340 #[.val (.int x0), .val (.int x1), .val (.int x2), .val (.int x3), .val (.int x4), .val (.int x5), .val (.int z1), .val (.int z2), .val (.int (1 : Int32)), .val (.ref b4), .val (.ref b18), .val (.ref b36), .val (.ref b47), .val (.ref b58), .val (.ref b66), .val (.ref b74), .val (.ref b82), .val (.ref b90), .val (.ref b98), .val (.int ((x0 &&& (2147483647 : Int32)) % (7 : Int32))), .val (.ref b82), .val (.int (1 : Int32)), .val (.int (1 : Int32)), .unset, .unset] [(.ref b82)])) _
            refine own_go (fun t_ k_ => XS.aload X112.here hx rfl (hb hby at_340) rfl rfl k_) ?_
            show own_Goes p e below (T112.setTop (mkF m 342 #[.val (.int x0), .val (.int x1), .val (.int x2), .val (.int x3), .val (.int x4), .val (.int x5), .val (.int z1), .val (.int z2), .val (.int (1 : Int32)), .val (.ref b4), .val (.ref b18), .val (.ref b36), .val (.ref b47), .val (.ref b58), .val (.ref b66), .val (.ref b74), .val (.ref b82), .val (.ref b90), .val (.ref b98), .val (.int ((x0 &&& (2147483647 : Int32)) % (7 : Int32))), .val (.ref b82), .val (.int (1 : Int32)), .val (.int (1 : Int32)), .unset, .unset] [(.ref b74), (.ref b82)])) _
            obtain ⟨cqiv113, kqiv113, qiv113a, qiv113b, qiv113c⟩ := isOf hZ103 e112 f107
            obtain ⟨_, _, ⟨T114, L114, k114, n114⟩, -, X114, ⟨Lc114, hQ114, l114, y114, z114⟩, st114⟩ := X112.virtualBack hx (y := own_m12) (z := own_m12) hown103 (mvT hZ103 (hw _ (List.mem_of_getElem? (i := 80) rfl))) (mvT hZ103 (hw _ (List.mem_of_getElem? (i := 81) rfl))) (notFace_of_selects (args := #[]) (mvT hZ103 (hw _ (List.mem_of_getElem? (i := 83) rfl)))) (mvT hZ103 (hw _ (List.mem_of_getElem? (i := 83) rfl))) (mvT hZ103 (hw _ (List.mem_of_getElem? (i := 82) rfl))) (by decide) (backOf (W := 0) (own_eqT l Z a0 hw [] b82 b74 b58 h103 n0 O104 f110 f109 f108) hZ103 (hw _ (List.mem_of_getElem? (i := 84) rfl)) (hw _ (List.mem_of_getElem? (i := 51) rfl)) (by decide) (by decide)) qiv113a qiv113c (g := (mkF m 342 #[.val (.int x0), .val (.int x1), .val (.int x2), .val (.int x3), .val (.int x4), .val (.int x5), .val (.int z1), .val (.int z2), .val (.int (1 : Int32)), .val (.ref b4), .val (.ref b18), .val (.ref b36), .val (.ref b47), .val (.ref b58), .val (.ref b66), .val (.ref b74), .val (.ref b82), .val (.ref b90), .val (.ref b98), .val (.int ((x0 &&& (2147483647 : Int32)) % (7 : Int32))), .val (.ref b82), .val (.int (1 : Int32)), .val (.int (1 : Int32)), .unset, .unset] [(.ref b74), (.ref b82)])) rfl (by rw [hml]; rfl) (Steps.refl _) (argsL := [(.ref b74)]) (rest := []) (lenOf own_pd_11 rfl) rfl (by show 2 * 0 + _ ≤ _; exact Nat.le_of_eq rfl) (hb hby at_342) (fun _ _ => ⟨rfl, e112, (by decide : 24 + 0 ≤ _), (by decide : 168 + 0 ≤ _)⟩)
            dsimp only [Pt.U, Pt.locs, Pt.cells, Pt.slots] at X114 l114 y114 z114 st114 hQ114
            subst l114 y114 z114
            obtain ⟨Nc114, e114, rfl⟩ := hQ114
            have N114 := Fr.app N112 Nc114
            refine own_goS st114 ?_
            show own_Goes p e below (T114.setTop (mkF m 345 #[.val (.int x0), .val (.int x1), .val (.int x2), .val (.int x3), .val (.int x4), .val (.int x5), .val (.int z1), .val (.int z2), .val (.int (1 : Int32)), .val (.ref b4), .val (.ref b18), .val (.ref b36), .val (.ref b47), .val (.ref b58), .val (.ref b66), .val (.ref b74), .val (.ref b82), .val (.ref b90), .val (.ref b98), .val (.int ((x0 &&& (2147483647 : Int32)) % (7 : Int32))), .val (.ref b82), .val (.int (1 : Int32)), .val (.int (1 : Int32)), .unset, .unset] [(.int (1 : Int32))])) _
            refine own_go (fun t_ k_ => XS.istore X114.here hx rfl (hb hby at_345) rfl (l' := #[.val (.int x0), .val (.int x1), .val (.int x2), .val (.int x3), .val (.int x4), .val (.int x5), .val (.int z1), .val (.int z2), .val (.int (1 : Int32)), .val (.ref b4), .val (.ref b18), .val (.ref b36), .val (.ref b47), .val (.ref b58), .val (.ref b66), .val (.ref b74), .val (.ref b82), .val (.ref b90), .val (.ref b98), .val (.int ((x0 &&& (2147483647 : Int32)) % (7 : Int32))), .val (.ref b82), .val (.int (1 : Int32)), .val (.int (1 : Int32)), .val (.int (1 : Int32)), .unset]) rfl k_) ?_
            show own_Goes p e below (T114.setTop (mkF m 347 #[.val (.int x0), .val (.int x1), .val (.int x2), .val (.int x3), .val (.int x4), .val (.int x5), .val (.int z1), .val (.int z2), .val (.int (1 : Int32)), .val (.ref b4), .val (.ref b18), .val (.ref b36), .val (.ref b47), .val (.ref b58), .val (.ref b66), .val (.ref b74), .val (.ref b82), .val (.ref b90), .val (.ref b98), .val (.int ((x0 &&& (2147483647 : Int32)) % (7 : Int32))), .val (.ref b82), .val (.int (1 : Int32)), .val (.int (1 : Int32)), .val (.int (1 : Int32)), .unset] [])) _
            refine own_go (fun t_ k_ => XS.aload X114.here hx rfl (hb hby at_347) rfl rfl k_) ?_
            show own_Goes p e below (T114.setTop (mkF m 349 #[.val (.int x0), .val (.int x1), .val (.int x2), .val (.int x3), .val (.int x4), .val (.int x5), .val (.int z1), .val (.int z2), .val (.int (1 : Int32)), .val (.ref b4), .val (.ref b18), .val (.ref b36), .val (.ref b47), .val (.ref b58), .val (.ref b66), .val (.ref b74), .val (.ref b82), .val (.ref b90), .val (.ref b98), .val (.int ((x0 &&& (2147483647 : Int32)) % (7 : Int32))), .val (.ref b82), .val (.int (1 : Int32)), .val (.int (1 : Int32)), .val (.int (1 : Int32)), .unset] [(.ref b90)])) _
            refine own_go (fun t_ k_ => XS.aload X114.here hx rfl (hb hby at_349) rfl rfl k_) ?_
            show own_Goes p e below (T114.setTop (mkF m 351 #[.val (.int x0), .val (.int x1), .val (.int x2), .val (.int x3), .val (.int x4), .val (.int x5), .val (.int z1), .val (.int z2), .val (.int (1 : Int32)), .val (.ref b4), .val (.ref b18), .val (.ref b36), .val (.ref b47), .val (.ref b58), .val (.ref b66), .val (.ref b74), .val (.ref b82), .val (.ref b90), .val (.ref b98), .val (.int ((x0 &&& (2147483647 : Int32)) % (7 : Int32))), .val (.ref b82), .val (.int (1 : Int32)), .val (.int (1 : Int32)), .val (.int (1 : Int32)), .unset] [(.ref b74), (.ref b90)])) _
            have f115 := ((c95_0.ext E98).keep Kc103 (ninS (own_ne (a := b90) (b := b98) (by omega)) nin0))
            have f116 := (((A90.keep Kc95).ext E98).keep Kc103)
            obtain ⟨cqiv117, kqiv117, qiv117a, qiv117b, qiv117c⟩ := isOf hZ103 e114 f116
            obtain ⟨_, _, ⟨T118, L118, k118, n118⟩, -, X118, ⟨Lc118, hQ118, l118, y118, z118⟩, st118⟩ := X114.virtualBack hx (y := own_m12) (z := own_m12) hown103 (mvT hZ103 (hw _ (List.mem_of_getElem? (i := 80) rfl))) (mvT hZ103 (hw _ (List.mem_of_getElem? (i := 81) rfl))) (notFace_of_selects (args := #[]) (mvT hZ103 (hw _ (List.mem_of_getElem? (i := 83) rfl)))) (mvT hZ103 (hw _ (List.mem_of_getElem? (i := 83) rfl))) (mvT hZ103 (hw _ (List.mem_of_getElem? (i := 82) rfl))) (by decide) (backOf (W := 0) (own_eqF l Z a0 hw [] b90 b74 b66 b58 h103 n0 O104 f110 f115 f108 (show ¬ b58 = b66 from (by omega))) hZ103 (hw _ (List.mem_of_getElem? (i := 84) rfl)) (hw _ (List.mem_of_getElem? (i := 51) rfl)) (by decide) (by decide)) qiv117a qiv117c (g := (mkF m 351 #[.val (.int x0), .val (.int x1), .val (.int x2), .val (.int x3), .val (.int x4), .val (.int x5), .val (.int z1), .val (.int z2), .val (.int (1 : Int32)), .val (.ref b4), .val (.ref b18), .val (.ref b36), .val (.ref b47), .val (.ref b58), .val (.ref b66), .val (.ref b74), .val (.ref b82), .val (.ref b90), .val (.ref b98), .val (.int ((x0 &&& (2147483647 : Int32)) % (7 : Int32))), .val (.ref b82), .val (.int (1 : Int32)), .val (.int (1 : Int32)), .val (.int (1 : Int32)), .unset] [(.ref b74), (.ref b90)])) rfl (by rw [hml]; rfl) (Steps.refl _) (argsL := [(.ref b74)]) (rest := []) (lenOf own_pd_11 rfl) rfl (by show 2 * 0 + _ ≤ _; exact Nat.le_of_eq rfl) (hb hby at_351) (fun _ _ => ⟨rfl, e114, (by decide : 24 + 0 ≤ _), (by decide : 168 + 0 ≤ _)⟩)
            dsimp only [Pt.U, Pt.locs, Pt.cells, Pt.slots] at X118 l118 y118 z118 st118 hQ118
            subst l118 y118 z118
            obtain ⟨Nc118, e118, rfl⟩ := hQ118
            have N118 := Fr.app N114 Nc118
            refine own_goS st118 ?_
            show own_Goes p e below (T118.setTop (mkF m 354 #[.val (.int x0), .val (.int x1), .val (.int x2), .val (.int x3), .val (.int x4), .val (.int x5), .val (.int z1), .val (.int z2), .val (.int (1 : Int32)), .val (.ref b4), .val (.ref b18), .val (.ref b36), .val (.ref b47), .val (.ref b58), .val (.ref b66), .val (.ref b74), .val (.ref b82), .val (.ref b90), .val (.ref b98), .val (.int ((x0 &&& (2147483647 : Int32)) % (7 : Int32))), .val (.ref b82), .val (.int (1 : Int32)), .val (.int (1 : Int32)), .val (.int (1 : Int32)), .unset] [(.int (0 : Int32))])) _
            refine own_go (fun t_ k_ => XS.istore X118.here hx rfl (hb hby at_354) rfl (l' := #[.val (.int x0), .val (.int x1), .val (.int x2), .val (.int x3), .val (.int x4), .val (.int x5), .val (.int z1), .val (.int z2), .val (.int (1 : Int32)), .val (.ref b4), .val (.ref b18), .val (.ref b36), .val (.ref b47), .val (.ref b58), .val (.ref b66), .val (.ref b74), .val (.ref b82), .val (.ref b90), .val (.ref b98), .val (.int ((x0 &&& (2147483647 : Int32)) % (7 : Int32))), .val (.ref b82), .val (.int (1 : Int32)), .val (.int (1 : Int32)), .val (.int (1 : Int32)), .val (.int (0 : Int32))]) rfl k_) ?_
            show own_Goes p e below (T118.setTop (mkF m 356 #[.val (.int x0), .val (.int x1), .val (.int x2), .val (.int x3), .val (.int x4), .val (.int x5), .val (.int z1), .val (.int z2), .val (.int (1 : Int32)), .val (.ref b4), .val (.ref b18), .val (.ref b36), .val (.ref b47), .val (.ref b58), .val (.ref b66), .val (.ref b74), .val (.ref b82), .val (.ref b90), .val (.ref b98), .val (.int ((x0 &&& (2147483647 : Int32)) % (7 : Int32))), .val (.ref b82), .val (.int (1 : Int32)), .val (.int (1 : Int32)), .val (.int (1 : Int32)), .val (.int (0 : Int32))] [])) _
            refine own_go (fun t_ k_ => XS.iload X118.here hx rfl (hb hby at_356) rfl k_) ?_
            show own_Goes p e below (T118.setTop (mkF m 358 #[.val (.int x0), .val (.int x1), .val (.int x2), .val (.int x3), .val (.int x4), .val (.int x5), .val (.int z1), .val (.int z2), .val (.int (1 : Int32)), .val (.ref b4), .val (.ref b18), .val (.ref b36), .val (.ref b47), .val (.ref b58), .val (.ref b66), .val (.ref b74), .val (.ref b82), .val (.ref b90), .val (.ref b98), .val (.int ((x0 &&& (2147483647 : Int32)) % (7 : Int32))), .val (.ref b82), .val (.int (1 : Int32)), .val (.int (1 : Int32)), .val (.int (1 : Int32)), .val (.int (0 : Int32))] [(.int (1 : Int32))])) _
            refine own_go (fun t_ k_ => XS.iload X118.here hx rfl (hb hby at_358) rfl k_) ?_
            show own_Goes p e below (T118.setTop (mkF m 360 #[.val (.int x0), .val (.int x1), .val (.int x2), .val (.int x3), .val (.int x4), .val (.int x5), .val (.int z1), .val (.int z2), .val (.int (1 : Int32)), .val (.ref b4), .val (.ref b18), .val (.ref b36), .val (.ref b47), .val (.ref b58), .val (.ref b66), .val (.ref b74), .val (.ref b82), .val (.ref b90), .val (.ref b98), .val (.int ((x0 &&& (2147483647 : Int32)) % (7 : Int32))), .val (.ref b82), .val (.int (1 : Int32)), .val (.int (1 : Int32)), .val (.int (1 : Int32)), .val (.int (0 : Int32))] [(.int (1 : Int32)), (.int (1 : Int32))])) _
            refine own_go (fun t_ k_ => XS.icmpNo X118.here hx rfl (hb hby at_360) rfl (teq (show ((1 : Int32) = (1 : Int32)) from by decide)).2 k_) ?_
            show own_Goes p e below (T118.setTop (mkF m 363 #[.val (.int x0), .val (.int x1), .val (.int x2), .val (.int x3), .val (.int x4), .val (.int x5), .val (.int z1), .val (.int z2), .val (.int (1 : Int32)), .val (.ref b4), .val (.ref b18), .val (.ref b36), .val (.ref b47), .val (.ref b58), .val (.ref b66), .val (.ref b74), .val (.ref b82), .val (.ref b90), .val (.ref b98), .val (.int ((x0 &&& (2147483647 : Int32)) % (7 : Int32))), .val (.ref b82), .val (.int (1 : Int32)), .val (.int (1 : Int32)), .val (.int (1 : Int32)), .val (.int (0 : Int32))] [])) _
            refine own_go (fun t_ k_ => XS.iload X118.here hx rfl (hb hby at_363) rfl k_) ?_
            show own_Goes p e below (T118.setTop (mkF m 365 #[.val (.int x0), .val (.int x1), .val (.int x2), .val (.int x3), .val (.int x4), .val (.int x5), .val (.int z1), .val (.int z2), .val (.int (1 : Int32)), .val (.ref b4), .val (.ref b18), .val (.ref b36), .val (.ref b47), .val (.ref b58), .val (.ref b66), .val (.ref b74), .val (.ref b82), .val (.ref b90), .val (.ref b98), .val (.int ((x0 &&& (2147483647 : Int32)) % (7 : Int32))), .val (.ref b82), .val (.int (1 : Int32)), .val (.int (1 : Int32)), .val (.int (1 : Int32)), .val (.int (0 : Int32))] [(.int (1 : Int32))])) _
            refine own_go (fun t_ k_ => XS.ifNo X118.here hx rfl (hb hby at_365) rfl ((if0 _ _).trans (feq (show ¬ ((1 : Int32) = (0 : Int32)) from by decide)).1) k_) ?_
            show own_Goes p e below (T118.setTop (mkF m 368 #[.val (.int x0), .val (.int x1), .val (.int x2), .val (.int x3), .val (.int x4), .val (.int x5), .val (.int z1), .val (.int z2), .val (.int (1 : Int32)), .val (.ref b4), .val (.ref b18), .val (.ref b36), .val (.ref b47), .val (.ref b58), .val (.ref b66), .val (.ref b74), .val (.ref b82), .val (.ref b90), .val (.ref b98), .val (.int ((x0 &&& (2147483647 : Int32)) % (7 : Int32))), .val (.ref b82), .val (.int (1 : Int32)), .val (.int (1 : Int32)), .val (.int (1 : Int32)), .val (.int (0 : Int32))] [])) _
            refine own_go (fun t_ k_ => XS.iload X118.here hx rfl (hb hby at_368) rfl k_) ?_
            show own_Goes p e below (T118.setTop (mkF m 370 #[.val (.int x0), .val (.int x1), .val (.int x2), .val (.int x3), .val (.int x4), .val (.int x5), .val (.int z1), .val (.int z2), .val (.int (1 : Int32)), .val (.ref b4), .val (.ref b18), .val (.ref b36), .val (.ref b47), .val (.ref b58), .val (.ref b66), .val (.ref b74), .val (.ref b82), .val (.ref b90), .val (.ref b98), .val (.int ((x0 &&& (2147483647 : Int32)) % (7 : Int32))), .val (.ref b82), .val (.int (1 : Int32)), .val (.int (1 : Int32)), .val (.int (1 : Int32)), .val (.int (0 : Int32))] [(.int (0 : Int32))])) _
            refine own_go (fun t_ k_ => XS.ifNo X118.here hx rfl (hb hby at_370) rfl ((if0 _ _).trans (teq (show ((0 : Int32) = (0 : Int32)) from by decide)).2) k_) ?_
            show own_Goes p e below (T118.setTop (mkF m 373 #[.val (.int x0), .val (.int x1), .val (.int x2), .val (.int x3), .val (.int x4), .val (.int x5), .val (.int z1), .val (.int z2), .val (.int (1 : Int32)), .val (.ref b4), .val (.ref b18), .val (.ref b36), .val (.ref b47), .val (.ref b58), .val (.ref b66), .val (.ref b74), .val (.ref b82), .val (.ref b90), .val (.ref b98), .val (.int ((x0 &&& (2147483647 : Int32)) % (7 : Int32))), .val (.ref b82), .val (.int (1 : Int32)), .val (.int (1 : Int32)), .val (.int (1 : Int32)), .val (.int (0 : Int32))] [])) _
            refine own_go (fun t_ k_ => XS.iconst X118.here hx rfl (hb hby at_373) k_) ?_
            show own_Goes p e below (T118.setTop (mkF m 374 #[.val (.int x0), .val (.int x1), .val (.int x2), .val (.int x3), .val (.int x4), .val (.int x5), .val (.int z1), .val (.int z2), .val (.int (1 : Int32)), .val (.ref b4), .val (.ref b18), .val (.ref b36), .val (.ref b47), .val (.ref b58), .val (.ref b66), .val (.ref b74), .val (.ref b82), .val (.ref b90), .val (.ref b98), .val (.int ((x0 &&& (2147483647 : Int32)) % (7 : Int32))), .val (.ref b82), .val (.int (1 : Int32)), .val (.int (1 : Int32)), .val (.int (1 : Int32)), .val (.int (0 : Int32))] [(.int (1 : Int32))])) _
            refine own_go (fun t_ k_ => XS.goto X118.here hx rfl (pc0 := 374) (pc' := 378) rfl (hb hby at_374) (by decide) (by decide) k_) ?_
            show own_Goes p e below (T118.setTop (mkF m 378 #[.val (.int x0), .val (.int x1), .val (.int x2), .val (.int x3), .val (.int x4), .val (.int x5), .val (.int z1), .val (.int z2), .val (.int (1 : Int32)), .val (.ref b4), .val (.ref b18), .val (.ref b36), .val (.ref b47), .val (.ref b58), .val (.ref b66), .val (.ref b74), .val (.ref b82), .val (.ref b90), .val (.ref b98), .val (.int ((x0 &&& (2147483647 : Int32)) % (7 : Int32))), .val (.ref b82), .val (.int (1 : Int32)), .val (.int (1 : Int32)), .val (.int (1 : Int32)), .val (.int (0 : Int32))] [(.int (1 : Int32))])) _
            refine own_endW X118 hS103 (show _ ≤ T118.heap.size by rw [e118]; exact hk103) (v := (some (.int (1 : Int32)))) (fun h => by rw [hret] at h; cases h) hlk (by decide) (by decide) ?_ (fun fs hr => retOut X118 hx hret rfl (Or.inl ⟨rfl, Or.inr (Or.inl rfl), _, rfl⟩) (hb hby at_378) hr)
            show Q_rm0 Z x0 x1 x2 x3 x4 x5 gz h0 n0 _ T118.heap _
            rw [e118]
            exact ⟨N118, trivial, rfl⟩
          · refine own_go (fun t_ k_ => XS.ifYes X103.here hx rfl (pc0 := 230) (pc' := 243) rfl (hb hby at_230) rfl ((if0 _ _).trans (feq hc106).2) (by decide) (by decide) k_) ?_
            show own_Goes p e below (T103.setTop (mkF m 243 #[.val (.int x0), .val (.int x1), .val (.int x2), .val (.int x3), .val (.int x4), .val (.int x5), .val (.int z1), .val (.int z2), .val (.int (1 : Int32)), .val (.ref b4), .val (.ref b18), .val (.ref b36), .val (.ref b47), .val (.ref b58), .val (.ref b66), .val (.ref b74), .val (.ref b82), .val (.ref b90), .val (.ref b98), .val (.int ((x0 &&& (2147483647 : Int32)) % (7 : Int32))), .unset, .unset, .unset, .unset, .unset] [])) _
            refine own_go (fun t_ k_ => XS.iload X103.here hx rfl (hb hby at_243) rfl k_) ?_
            show own_Goes p e below (T103.setTop (mkF m 245 #[.val (.int x0), .val (.int x1), .val (.int x2), .val (.int x3), .val (.int x4), .val (.int x5), .val (.int z1), .val (.int z2), .val (.int (1 : Int32)), .val (.ref b4), .val (.ref b18), .val (.ref b36), .val (.ref b47), .val (.ref b58), .val (.ref b66), .val (.ref b74), .val (.ref b82), .val (.ref b90), .val (.ref b98), .val (.int ((x0 &&& (2147483647 : Int32)) % (7 : Int32))), .unset, .unset, .unset, .unset, .unset] [(.int ((x0 &&& (2147483647 : Int32)) % (7 : Int32)))])) _
            refine own_go (fun t_ k_ => XS.iconst X103.here hx rfl (hb hby at_245) k_) ?_
            show own_Goes p e below (T103.setTop (mkF m 246 #[.val (.int x0), .val (.int x1), .val (.int x2), .val (.int x3), .val (.int x4), .val (.int x5), .val (.int z1), .val (.int z2), .val (.int (1 : Int32)), .val (.ref b4), .val (.ref b18), .val (.ref b36), .val (.ref b47), .val (.ref b58), .val (.ref b66), .val (.ref b74), .val (.ref b82), .val (.ref b90), .val (.ref b98), .val (.int ((x0 &&& (2147483647 : Int32)) % (7 : Int32))), .unset, .unset, .unset, .unset, .unset] [(.int (1 : Int32)), (.int ((x0 &&& (2147483647 : Int32)) % (7 : Int32)))])) _
            by_cases hc119 : ((x0 &&& (2147483647 : Int32)) % (7 : Int32)) = (1 : Int32)
            · refine own_go (fun t_ k_ => XS.icmpNo X103.here hx rfl (hb hby at_246) rfl (teq hc119).2 k_) ?_
              show own_Goes p e below (T103.setTop (mkF m 249 #[.val (.int x0), .val (.int x1), .val (.int x2), .val (.int x3), .val (.int x4), .val (.int x5), .val (.int z1), .val (.int z2), .val (.int (1 : Int32)), .val (.ref b4), .val (.ref b18), .val (.ref b36), .val (.ref b47), .val (.ref b58), .val (.ref b66), .val (.ref b74), .val (.ref b82), .val (.ref b90), .val (.ref b98), .val (.int ((x0 &&& (2147483647 : Int32)) % (7 : Int32))), .unset, .unset, .unset, .unset, .unset] [])) _
              refine own_go (fun t_ k_ => XS.aload X103.here hx rfl (hb hby at_249) rfl rfl k_) ?_
              show own_Goes p e below (T103.setTop (mkF m 251 #[.val (.int x0), .val (.int x1), .val (.int x2), .val (.int x3), .val (.int x4), .val (.int x5), .val (.int z1), .val (.int z2), .val (.int (1 : Int32)), .val (.ref b4), .val (.ref b18), .val (.ref b36), .val (.ref b47), .val (.ref b58), .val (.ref b66), .val (.ref b74), .val (.ref b82), .val (.ref b90), .val (.ref b98), .val (.int ((x0 &&& (2147483647 : Int32)) % (7 : Int32))), .unset, .unset, .unset, .unset, .unset] [(.ref b90)])) _
              refine own_go (fun t_ k_ => XS.astore X103.here hx rfl (hb hby at_251) rfl rfl (l' := #[.val (.int x0), .val (.int x1), .val (.int x2), .val (.int x3), .val (.int x4), .val (.int x5), .val (.int z1), .val (.int z2), .val (.int (1 : Int32)), .val (.ref b4), .val (.ref b18), .val (.ref b36), .val (.ref b47), .val (.ref b58), .val (.ref b66), .val (.ref b74), .val (.ref b82), .val (.ref b90), .val (.ref b98), .val (.int ((x0 &&& (2147483647 : Int32)) % (7 : Int32))), .val (.ref b90), .unset, .unset, .unset, .unset]) rfl k_) ?_
              show own_Goes p e below (T103.setTop (mkF m 253 #[.val (.int x0), .val (.int x1), .val (.int x2), .val (.int x3), .val (.int x4), .val (.int x5), .val (.int z1), .val (.int z2), .val (.int (1 : Int32)), .val (.ref b4), .val (.ref b18), .val (.ref b36), .val (.ref b47), .val (.ref b58), .val (.ref b66), .val (.ref b74), .val (.ref b82), .val (.ref b90), .val (.ref b98), .val (.int ((x0 &&& (2147483647 : Int32)) % (7 : Int32))), .val (.ref b90), .unset, .unset, .unset, .unset] [])) _
              refine own_go (fun t_ k_ => XS.iconst X103.here hx rfl (hb hby at_253) k_) ?_
              show own_Goes p e below (T103.setTop (mkF m 254 #[.val (.int x0), .val (.int x1), .val (.int x2), .val (.int x3), .val (.int x4), .val (.int x5), .val (.int z1), .val (.int z2), .val (.int (1 : Int32)), .val (.ref b4), .val (.ref b18), .val (.ref b36), .val (.ref b47), .val (.ref b58), .val (.ref b66), .val (.ref b74), .val (.ref b82), .val (.ref b90), .val (.ref b98), .val (.int ((x0 &&& (2147483647 : Int32)) % (7 : Int32))), .val (.ref b90), .unset, .unset, .unset, .unset] [(.int (0 : Int32))])) _
              refine own_go (fun t_ k_ => XS.istore X103.here hx rfl (hb hby at_254) rfl (l' := #[.val (.int x0), .val (.int x1), .val (.int x2), .val (.int x3), .val (.int x4), .val (.int x5), .val (.int z1), .val (.int z2), .val (.int (1 : Int32)), .val (.ref b4), .val (.ref b18), .val (.ref b36), .val (.ref b47), .val (.ref b58), .val (.ref b66), .val (.ref b74), .val (.ref b82), .val (.ref b90), .val (.ref b98), .val (.int ((x0 &&& (2147483647 : Int32)) % (7 : Int32))), .val (.ref b90), .val (.int (0 : Int32)), .unset, .unset, .unset]) rfl k_) ?_
              show own_Goes p e below (T103.setTop (mkF m 256 #[.val (.int x0), .val (.int x1), .val (.int x2), .val (.int x3), .val (.int x4), .val (.int x5), .val (.int z1), .val (.int z2), .val (.int (1 : Int32)), .val (.ref b4), .val (.ref b18), .val (.ref b36), .val (.ref b47), .val (.ref b58), .val (.ref b66), .val (.ref b74), .val (.ref b82), .val (.ref b90), .val (.ref b98), .val (.int ((x0 &&& (2147483647 : Int32)) % (7 : Int32))), .val (.ref b90), .val (.int (0 : Int32)), .unset, .unset, .unset] [])) _
              refine own_go (fun t_ k_ => XS.goto X103.here hx rfl (pc0 := 256) (pc' := 329) rfl (hb hby at_256) (by decide) (by decide) k_) ?_
              show own_Goes p e below (T103.setTop (mkF m 329 #[.val (.int x0), .val (.int x1), .val (.int x2), .val (.int x3), .val (.int x4), .val (.int x5), .val (.int z1), .val (.int z2), .val (.int (1 : Int32)), .val (.ref b4), .val (.ref b18), .val (.ref b36), .val (.ref b47), .val (.ref b58), .val (.ref b66), .val (.ref b74), .val (.ref b82), .val (.ref b90), .val (.ref b98), .val (.int ((x0 &&& (2147483647 : Int32)) % (7 : Int32))), .val (.ref b90), .val (.int (0 : Int32)), .unset, .unset, .unset] [])) _
              refine own_go (fun t_ k_ => XS.aload X103.here hx rfl (hb hby at_329) rfl rfl k_) ?_
              show own_Goes p e below (T103.setTop (mkF m 331 #[.val (.int x0), .val (.int x1), .val (.int x2), .val (.int x3), .val (.int x4), .val (.int x5), .val (.int z1), .val (.int z2), .val (.int (1 : Int32)), .val (.ref b4), .val (.ref b18), .val (.ref b36), .val (.ref b47), .val (.ref b58), .val (.ref b66), .val (.ref b74), .val (.ref b82), .val (.ref b90), .val (.ref b98), .val (.int ((x0 &&& (2147483647 : Int32)) % (7 : Int32))), .val (.ref b90), .val (.int (0 : Int32)), .unset, .unset, .unset] [(.ref b74)])) _
              refine own_go (fun t_ k_ => XS.aload X103.here hx rfl (hb hby at_331) rfl rfl k_) ?_
              show own_Goes p e below (T103.setTop (mkF m 333 #[.val (.int x0), .val (.int x1), .val (.int x2), .val (.int x3), .val (.int x4), .val (.int x5), .val (.int z1), .val (.int z2), .val (.int (1 : Int32)), .val (.ref b4), .val (.ref b18), .val (.ref b36), .val (.ref b47), .val (.ref b58), .val (.ref b66), .val (.ref b74), .val (.ref b82), .val (.ref b90), .val (.ref b98), .val (.int ((x0 &&& (2147483647 : Int32)) % (7 : Int32))), .val (.ref b90), .val (.int (0 : Int32)), .unset, .unset, .unset] [(.ref b90), (.ref b74)])) _
              have f120 := (((A90.keep Kc95).ext E98).keep Kc103)
              have f121 := ((((((c79_0.ext E82).keep Kc87 (ninS (own_ne (a := b74) (b := b82) (by omega)) nin0)).ext E90).keep Kc95 (ninS (own_ne (a := b74) (b := b90) (by omega)) nin0)).ext E98).keep Kc103 (ninS (own_ne (a := b74) (b := b98) (by omega)) nin0))
              have f122 := ((c95_0.ext E98).keep Kc103 (ninS (own_ne (a := b90) (b := b98) (by omega)) nin0))
              have f123 := (((((((A74.keep Kc79).ext E82).keep Kc87).ext E90).keep Kc95).ext E98).keep Kc103)
              obtain ⟨cqiv124, kqiv124, qiv124a, qiv124b, qiv124c⟩ := isOf hZ103 e103 f123
              obtain ⟨_, _, ⟨T125, L125, k125, n125⟩, -, X125, ⟨Lc125, hQ125, l125, y125, z125⟩, st125⟩ := X103.virtualBack hx (y := own_m12) (z := own_m12) hown103 (mvT hZ103 (hw _ (List.mem_of_getElem? (i := 80) rfl))) (mvT hZ103 (hw _ (List.mem_of_getElem? (i := 81) rfl))) (notFace_of_selects (args := #[]) (mvT hZ103 (hw _ (List.mem_of_getElem? (i := 83) rfl)))) (mvT hZ103 (hw _ (List.mem_of_getElem? (i := 83) rfl))) (mvT hZ103 (hw _ (List.mem_of_getElem? (i := 82) rfl))) (by decide) (backOf (W := 0) (own_eqF l Z a0 hw [] b74 b90 b58 b66 h103 n0 O104 f120 f121 f122 (show ¬ b66 = b58 from (by omega))) hZ103 (hw _ (List.mem_of_getElem? (i := 84) rfl)) (hw _ (List.mem_of_getElem? (i := 51) rfl)) (by decide) (by decide)) qiv124a qiv124c (g := (mkF m 333 #[.val (.int x0), .val (.int x1), .val (.int x2), .val (.int x3), .val (.int x4), .val (.int x5), .val (.int z1), .val (.int z2), .val (.int (1 : Int32)), .val (.ref b4), .val (.ref b18), .val (.ref b36), .val (.ref b47), .val (.ref b58), .val (.ref b66), .val (.ref b74), .val (.ref b82), .val (.ref b90), .val (.ref b98), .val (.int ((x0 &&& (2147483647 : Int32)) % (7 : Int32))), .val (.ref b90), .val (.int (0 : Int32)), .unset, .unset, .unset] [(.ref b90), (.ref b74)])) rfl (by rw [hml]; rfl) (Steps.refl _) (argsL := [(.ref b90)]) (rest := []) (lenOf own_pd_11 rfl) rfl (by show 2 * 0 + _ ≤ _; exact Nat.le_of_eq rfl) (hb hby at_333) (fun _ _ => ⟨rfl, e103, (by decide : 24 + 0 ≤ _), (by decide : 168 + 0 ≤ _)⟩)
              dsimp only [Pt.U, Pt.locs, Pt.cells, Pt.slots] at X125 l125 y125 z125 st125 hQ125
              subst l125 y125 z125
              obtain ⟨Nc125, e125, rfl⟩ := hQ125
              have N125 := Fr.app N103 Nc125
              refine own_goS st125 ?_
              show own_Goes p e below (T125.setTop (mkF m 336 #[.val (.int x0), .val (.int x1), .val (.int x2), .val (.int x3), .val (.int x4), .val (.int x5), .val (.int z1), .val (.int z2), .val (.int (1 : Int32)), .val (.ref b4), .val (.ref b18), .val (.ref b36), .val (.ref b47), .val (.ref b58), .val (.ref b66), .val (.ref b74), .val (.ref b82), .val (.ref b90), .val (.ref b98), .val (.int ((x0 &&& (2147483647 : Int32)) % (7 : Int32))), .val (.ref b90), .val (.int (0 : Int32)), .unset, .unset, .unset] [(.int (0 : Int32))])) _
              refine own_go (fun t_ k_ => XS.istore X125.here hx rfl (hb hby at_336) rfl (l' := #[.val (.int x0), .val (.int x1), .val (.int x2), .val (.int x3), .val (.int x4), .val (.int x5), .val (.int z1), .val (.int z2), .val (.int (1 : Int32)), .val (.ref b4), .val (.ref b18), .val (.ref b36), .val (.ref b47), .val (.ref b58), .val (.ref b66), .val (.ref b74), .val (.ref b82), .val (.ref b90), .val (.ref b98), .val (.int ((x0 &&& (2147483647 : Int32)) % (7 : Int32))), .val (.ref b90), .val (.int (0 : Int32)), .val (.int (0 : Int32)), .unset, .unset]) rfl k_) ?_
              show own_Goes p e below (T125.setTop (mkF m 338 #[.val (.int x0), .val (.int x1), .val (.int x2), .val (.int x3), .val (.int x4), .val (.int x5), .val (.int z1), .val (.int z2), .val (.int (1 : Int32)), .val (.ref b4), .val (.ref b18), .val (.ref b36), .val (.ref b47), .val (.ref b58), .val (.ref b66), .val (.ref b74), .val (.ref b82), .val (.ref b90), .val (.ref b98), .val (.int ((x0 &&& (2147483647 : Int32)) % (7 : Int32))), .val (.ref b90), .val (.int (0 : Int32)), .val (.int (0 : Int32)), .unset, .unset] [])) _
              refine own_go (fun t_ k_ => XS.aload X125.here hx rfl (hb hby at_338) rfl rfl k_) ?_
              show own_Goes p e below (T125.setTop (mkF m 340 #[.val (.int x0), .val (.int x1), .val (.int x2), .val (.int x3), .val (.int x4), .val (.int x5), .val (.int z1), .val (.int z2), .val (.int (1 : Int32)), .val (.ref b4), .val (.ref b18), .val (.ref b36), .val (.ref b47), .val (.ref b58), .val (.ref b66), .val (.ref b74), .val (.ref b82), .val (.ref b90), .val (.ref b98), .val (.int ((x0 &&& (2147483647 : Int32)) % (7 : Int32))), .val (.ref b90), .val (.int (0 : Int32)), .val (.int (0 : Int32)), .unset, .unset] [(.ref b82)])) _
              refine own_go (fun t_ k_ => XS.aload X125.here hx rfl (hb hby at_340) rfl rfl k_) ?_
              show own_Goes p e below (T125.setTop (mkF m 342 #[.val (.int x0), .val (.int x1), .val (.int x2), .val (.int x3), .val (.int x4), .val (.int x5), .val (.int z1), .val (.int z2), .val (.int (1 : Int32)), .val (.ref b4), .val (.ref b18), .val (.ref b36), .val (.ref b47), .val (.ref b58), .val (.ref b66), .val (.ref b74), .val (.ref b82), .val (.ref b90), .val (.ref b98), .val (.int ((x0 &&& (2147483647 : Int32)) % (7 : Int32))), .val (.ref b90), .val (.int (0 : Int32)), .val (.int (0 : Int32)), .unset, .unset] [(.ref b74), (.ref b82)])) _
              have f126 := ((((c87_0.ext E90).keep Kc95 (ninS (own_ne (a := b82) (b := b90) (by omega)) nin0)).ext E98).keep Kc103 (ninS (own_ne (a := b82) (b := b98) (by omega)) nin0))
              have f127 := (((((A82.keep Kc87).ext E90).keep Kc95).ext E98).keep Kc103)
              obtain ⟨cqiv128, kqiv128, qiv128a, qiv128b, qiv128c⟩ := isOf hZ103 e125 f127
              obtain ⟨_, _, ⟨T129, L129, k129, n129⟩, -, X129, ⟨Lc129, hQ129, l129, y129, z129⟩, st129⟩ := X125.virtualBack hx (y := own_m12) (z := own_m12) hown103 (mvT hZ103 (hw _ (List.mem_of_getElem? (i := 80) rfl))) (mvT hZ103 (hw _ (List.mem_of_getElem? (i := 81) rfl))) (notFace_of_selects (args := #[]) (mvT hZ103 (hw _ (List.mem_of_getElem? (i := 83) rfl)))) (mvT hZ103 (hw _ (List.mem_of_getElem? (i := 83) rfl))) (mvT hZ103 (hw _ (List.mem_of_getElem? (i := 82) rfl))) (by decide) (backOf (W := 0) (own_eqT l Z a0 hw [] b82 b74 b58 h103 n0 O104 f123 f126 f121) hZ103 (hw _ (List.mem_of_getElem? (i := 84) rfl)) (hw _ (List.mem_of_getElem? (i := 51) rfl)) (by decide) (by decide)) qiv128a qiv128c (g := (mkF m 342 #[.val (.int x0), .val (.int x1), .val (.int x2), .val (.int x3), .val (.int x4), .val (.int x5), .val (.int z1), .val (.int z2), .val (.int (1 : Int32)), .val (.ref b4), .val (.ref b18), .val (.ref b36), .val (.ref b47), .val (.ref b58), .val (.ref b66), .val (.ref b74), .val (.ref b82), .val (.ref b90), .val (.ref b98), .val (.int ((x0 &&& (2147483647 : Int32)) % (7 : Int32))), .val (.ref b90), .val (.int (0 : Int32)), .val (.int (0 : Int32)), .unset, .unset] [(.ref b74), (.ref b82)])) rfl (by rw [hml]; rfl) (Steps.refl _) (argsL := [(.ref b74)]) (rest := []) (lenOf own_pd_11 rfl) rfl (by show 2 * 0 + _ ≤ _; exact Nat.le_of_eq rfl) (hb hby at_342) (fun _ _ => ⟨rfl, e125, (by decide : 24 + 0 ≤ _), (by decide : 168 + 0 ≤ _)⟩)
              dsimp only [Pt.U, Pt.locs, Pt.cells, Pt.slots] at X129 l129 y129 z129 st129 hQ129
              subst l129 y129 z129
              obtain ⟨Nc129, e129, rfl⟩ := hQ129
              have N129 := Fr.app N125 Nc129
              refine own_goS st129 ?_
              show own_Goes p e below (T129.setTop (mkF m 345 #[.val (.int x0), .val (.int x1), .val (.int x2), .val (.int x3), .val (.int x4), .val (.int x5), .val (.int z1), .val (.int z2), .val (.int (1 : Int32)), .val (.ref b4), .val (.ref b18), .val (.ref b36), .val (.ref b47), .val (.ref b58), .val (.ref b66), .val (.ref b74), .val (.ref b82), .val (.ref b90), .val (.ref b98), .val (.int ((x0 &&& (2147483647 : Int32)) % (7 : Int32))), .val (.ref b90), .val (.int (0 : Int32)), .val (.int (0 : Int32)), .unset, .unset] [(.int (1 : Int32))])) _
              refine own_go (fun t_ k_ => XS.istore X129.here hx rfl (hb hby at_345) rfl (l' := #[.val (.int x0), .val (.int x1), .val (.int x2), .val (.int x3), .val (.int x4), .val (.int x5), .val (.int z1), .val (.int z2), .val (.int (1 : Int32)), .val (.ref b4), .val (.ref b18), .val (.ref b36), .val (.ref b47), .val (.ref b58), .val (.ref b66), .val (.ref b74), .val (.ref b82), .val (.ref b90), .val (.ref b98), .val (.int ((x0 &&& (2147483647 : Int32)) % (7 : Int32))), .val (.ref b90), .val (.int (0 : Int32)), .val (.int (0 : Int32)), .val (.int (1 : Int32)), .unset]) rfl k_) ?_
              show own_Goes p e below (T129.setTop (mkF m 347 #[.val (.int x0), .val (.int x1), .val (.int x2), .val (.int x3), .val (.int x4), .val (.int x5), .val (.int z1), .val (.int z2), .val (.int (1 : Int32)), .val (.ref b4), .val (.ref b18), .val (.ref b36), .val (.ref b47), .val (.ref b58), .val (.ref b66), .val (.ref b74), .val (.ref b82), .val (.ref b90), .val (.ref b98), .val (.int ((x0 &&& (2147483647 : Int32)) % (7 : Int32))), .val (.ref b90), .val (.int (0 : Int32)), .val (.int (0 : Int32)), .val (.int (1 : Int32)), .unset] [])) _
              refine own_go (fun t_ k_ => XS.aload X129.here hx rfl (hb hby at_347) rfl rfl k_) ?_
              show own_Goes p e below (T129.setTop (mkF m 349 #[.val (.int x0), .val (.int x1), .val (.int x2), .val (.int x3), .val (.int x4), .val (.int x5), .val (.int z1), .val (.int z2), .val (.int (1 : Int32)), .val (.ref b4), .val (.ref b18), .val (.ref b36), .val (.ref b47), .val (.ref b58), .val (.ref b66), .val (.ref b74), .val (.ref b82), .val (.ref b90), .val (.ref b98), .val (.int ((x0 &&& (2147483647 : Int32)) % (7 : Int32))), .val (.ref b90), .val (.int (0 : Int32)), .val (.int (0 : Int32)), .val (.int (1 : Int32)), .unset] [(.ref b90)])) _
              refine own_go (fun t_ k_ => XS.aload X129.here hx rfl (hb hby at_349) rfl rfl k_) ?_
              show own_Goes p e below (T129.setTop (mkF m 351 #[.val (.int x0), .val (.int x1), .val (.int x2), .val (.int x3), .val (.int x4), .val (.int x5), .val (.int z1), .val (.int z2), .val (.int (1 : Int32)), .val (.ref b4), .val (.ref b18), .val (.ref b36), .val (.ref b47), .val (.ref b58), .val (.ref b66), .val (.ref b74), .val (.ref b82), .val (.ref b90), .val (.ref b98), .val (.int ((x0 &&& (2147483647 : Int32)) % (7 : Int32))), .val (.ref b90), .val (.int (0 : Int32)), .val (.int (0 : Int32)), .val (.int (1 : Int32)), .unset] [(.ref b74), (.ref b90)])) _
              obtain ⟨cqiv130, kqiv130, qiv130a, qiv130b, qiv130c⟩ := isOf hZ103 e129 f120
              obtain ⟨_, _, ⟨T131, L131, k131, n131⟩, -, X131, ⟨Lc131, hQ131, l131, y131, z131⟩, st131⟩ := X129.virtualBack hx (y := own_m12) (z := own_m12) hown103 (mvT hZ103 (hw _ (List.mem_of_getElem? (i := 80) rfl))) (mvT hZ103 (hw _ (List.mem_of_getElem? (i := 81) rfl))) (notFace_of_selects (args := #[]) (mvT hZ103 (hw _ (List.mem_of_getElem? (i := 83) rfl)))) (mvT hZ103 (hw _ (List.mem_of_getElem? (i := 83) rfl))) (mvT hZ103 (hw _ (List.mem_of_getElem? (i := 82) rfl))) (by decide) (backOf (W := 0) (own_eqF l Z a0 hw [] b90 b74 b66 b58 h103 n0 O104 f123 f122 f121 (show ¬ b58 = b66 from (by omega))) hZ103 (hw _ (List.mem_of_getElem? (i := 84) rfl)) (hw _ (List.mem_of_getElem? (i := 51) rfl)) (by decide) (by decide)) qiv130a qiv130c (g := (mkF m 351 #[.val (.int x0), .val (.int x1), .val (.int x2), .val (.int x3), .val (.int x4), .val (.int x5), .val (.int z1), .val (.int z2), .val (.int (1 : Int32)), .val (.ref b4), .val (.ref b18), .val (.ref b36), .val (.ref b47), .val (.ref b58), .val (.ref b66), .val (.ref b74), .val (.ref b82), .val (.ref b90), .val (.ref b98), .val (.int ((x0 &&& (2147483647 : Int32)) % (7 : Int32))), .val (.ref b90), .val (.int (0 : Int32)), .val (.int (0 : Int32)), .val (.int (1 : Int32)), .unset] [(.ref b74), (.ref b90)])) rfl (by rw [hml]; rfl) (Steps.refl _) (argsL := [(.ref b74)]) (rest := []) (lenOf own_pd_11 rfl) rfl (by show 2 * 0 + _ ≤ _; exact Nat.le_of_eq rfl) (hb hby at_351) (fun _ _ => ⟨rfl, e129, (by decide : 24 + 0 ≤ _), (by decide : 168 + 0 ≤ _)⟩)
              dsimp only [Pt.U, Pt.locs, Pt.cells, Pt.slots] at X131 l131 y131 z131 st131 hQ131
              subst l131 y131 z131
              obtain ⟨Nc131, e131, rfl⟩ := hQ131
              have N131 := Fr.app N129 Nc131
              refine own_goS st131 ?_
              show own_Goes p e below (T131.setTop (mkF m 354 #[.val (.int x0), .val (.int x1), .val (.int x2), .val (.int x3), .val (.int x4), .val (.int x5), .val (.int z1), .val (.int z2), .val (.int (1 : Int32)), .val (.ref b4), .val (.ref b18), .val (.ref b36), .val (.ref b47), .val (.ref b58), .val (.ref b66), .val (.ref b74), .val (.ref b82), .val (.ref b90), .val (.ref b98), .val (.int ((x0 &&& (2147483647 : Int32)) % (7 : Int32))), .val (.ref b90), .val (.int (0 : Int32)), .val (.int (0 : Int32)), .val (.int (1 : Int32)), .unset] [(.int (0 : Int32))])) _
              refine own_go (fun t_ k_ => XS.istore X131.here hx rfl (hb hby at_354) rfl (l' := #[.val (.int x0), .val (.int x1), .val (.int x2), .val (.int x3), .val (.int x4), .val (.int x5), .val (.int z1), .val (.int z2), .val (.int (1 : Int32)), .val (.ref b4), .val (.ref b18), .val (.ref b36), .val (.ref b47), .val (.ref b58), .val (.ref b66), .val (.ref b74), .val (.ref b82), .val (.ref b90), .val (.ref b98), .val (.int ((x0 &&& (2147483647 : Int32)) % (7 : Int32))), .val (.ref b90), .val (.int (0 : Int32)), .val (.int (0 : Int32)), .val (.int (1 : Int32)), .val (.int (0 : Int32))]) rfl k_) ?_
              show own_Goes p e below (T131.setTop (mkF m 356 #[.val (.int x0), .val (.int x1), .val (.int x2), .val (.int x3), .val (.int x4), .val (.int x5), .val (.int z1), .val (.int z2), .val (.int (1 : Int32)), .val (.ref b4), .val (.ref b18), .val (.ref b36), .val (.ref b47), .val (.ref b58), .val (.ref b66), .val (.ref b74), .val (.ref b82), .val (.ref b90), .val (.ref b98), .val (.int ((x0 &&& (2147483647 : Int32)) % (7 : Int32))), .val (.ref b90), .val (.int (0 : Int32)), .val (.int (0 : Int32)), .val (.int (1 : Int32)), .val (.int (0 : Int32))] [])) _
              refine own_go (fun t_ k_ => XS.iload X131.here hx rfl (hb hby at_356) rfl k_) ?_
              show own_Goes p e below (T131.setTop (mkF m 358 #[.val (.int x0), .val (.int x1), .val (.int x2), .val (.int x3), .val (.int x4), .val (.int x5), .val (.int z1), .val (.int z2), .val (.int (1 : Int32)), .val (.ref b4), .val (.ref b18), .val (.ref b36), .val (.ref b47), .val (.ref b58), .val (.ref b66), .val (.ref b74), .val (.ref b82), .val (.ref b90), .val (.ref b98), .val (.int ((x0 &&& (2147483647 : Int32)) % (7 : Int32))), .val (.ref b90), .val (.int (0 : Int32)), .val (.int (0 : Int32)), .val (.int (1 : Int32)), .val (.int (0 : Int32))] [(.int (0 : Int32))])) _
              refine own_go (fun t_ k_ => XS.iload X131.here hx rfl (hb hby at_358) rfl k_) ?_
              show own_Goes p e below (T131.setTop (mkF m 360 #[.val (.int x0), .val (.int x1), .val (.int x2), .val (.int x3), .val (.int x4), .val (.int x5), .val (.int z1), .val (.int z2), .val (.int (1 : Int32)), .val (.ref b4), .val (.ref b18), .val (.ref b36), .val (.ref b47), .val (.ref b58), .val (.ref b66), .val (.ref b74), .val (.ref b82), .val (.ref b90), .val (.ref b98), .val (.int ((x0 &&& (2147483647 : Int32)) % (7 : Int32))), .val (.ref b90), .val (.int (0 : Int32)), .val (.int (0 : Int32)), .val (.int (1 : Int32)), .val (.int (0 : Int32))] [(.int (0 : Int32)), (.int (0 : Int32))])) _
              refine own_go (fun t_ k_ => XS.icmpNo X131.here hx rfl (hb hby at_360) rfl (teq (show ((0 : Int32) = (0 : Int32)) from by decide)).2 k_) ?_
              show own_Goes p e below (T131.setTop (mkF m 363 #[.val (.int x0), .val (.int x1), .val (.int x2), .val (.int x3), .val (.int x4), .val (.int x5), .val (.int z1), .val (.int z2), .val (.int (1 : Int32)), .val (.ref b4), .val (.ref b18), .val (.ref b36), .val (.ref b47), .val (.ref b58), .val (.ref b66), .val (.ref b74), .val (.ref b82), .val (.ref b90), .val (.ref b98), .val (.int ((x0 &&& (2147483647 : Int32)) % (7 : Int32))), .val (.ref b90), .val (.int (0 : Int32)), .val (.int (0 : Int32)), .val (.int (1 : Int32)), .val (.int (0 : Int32))] [])) _
              refine own_go (fun t_ k_ => XS.iload X131.here hx rfl (hb hby at_363) rfl k_) ?_
              show own_Goes p e below (T131.setTop (mkF m 365 #[.val (.int x0), .val (.int x1), .val (.int x2), .val (.int x3), .val (.int x4), .val (.int x5), .val (.int z1), .val (.int z2), .val (.int (1 : Int32)), .val (.ref b4), .val (.ref b18), .val (.ref b36), .val (.ref b47), .val (.ref b58), .val (.ref b66), .val (.ref b74), .val (.ref b82), .val (.ref b90), .val (.ref b98), .val (.int ((x0 &&& (2147483647 : Int32)) % (7 : Int32))), .val (.ref b90), .val (.int (0 : Int32)), .val (.int (0 : Int32)), .val (.int (1 : Int32)), .val (.int (0 : Int32))] [(.int (1 : Int32))])) _
              refine own_go (fun t_ k_ => XS.ifNo X131.here hx rfl (hb hby at_365) rfl ((if0 _ _).trans (feq (show ¬ ((1 : Int32) = (0 : Int32)) from by decide)).1) k_) ?_
              show own_Goes p e below (T131.setTop (mkF m 368 #[.val (.int x0), .val (.int x1), .val (.int x2), .val (.int x3), .val (.int x4), .val (.int x5), .val (.int z1), .val (.int z2), .val (.int (1 : Int32)), .val (.ref b4), .val (.ref b18), .val (.ref b36), .val (.ref b47), .val (.ref b58), .val (.ref b66), .val (.ref b74), .val (.ref b82), .val (.ref b90), .val (.ref b98), .val (.int ((x0 &&& (2147483647 : Int32)) % (7 : Int32))), .val (.ref b90), .val (.int (0 : Int32)), .val (.int (0 : Int32)), .val (.int (1 : Int32)), .val (.int (0 : Int32))] [])) _
              refine own_go (fun t_ k_ => XS.iload X131.here hx rfl (hb hby at_368) rfl k_) ?_
              show own_Goes p e below (T131.setTop (mkF m 370 #[.val (.int x0), .val (.int x1), .val (.int x2), .val (.int x3), .val (.int x4), .val (.int x5), .val (.int z1), .val (.int z2), .val (.int (1 : Int32)), .val (.ref b4), .val (.ref b18), .val (.ref b36), .val (.ref b47), .val (.ref b58), .val (.ref b66), .val (.ref b74), .val (.ref b82), .val (.ref b90), .val (.ref b98), .val (.int ((x0 &&& (2147483647 : Int32)) % (7 : Int32))), .val (.ref b90), .val (.int (0 : Int32)), .val (.int (0 : Int32)), .val (.int (1 : Int32)), .val (.int (0 : Int32))] [(.int (0 : Int32))])) _
              refine own_go (fun t_ k_ => XS.ifNo X131.here hx rfl (hb hby at_370) rfl ((if0 _ _).trans (teq (show ((0 : Int32) = (0 : Int32)) from by decide)).2) k_) ?_
              show own_Goes p e below (T131.setTop (mkF m 373 #[.val (.int x0), .val (.int x1), .val (.int x2), .val (.int x3), .val (.int x4), .val (.int x5), .val (.int z1), .val (.int z2), .val (.int (1 : Int32)), .val (.ref b4), .val (.ref b18), .val (.ref b36), .val (.ref b47), .val (.ref b58), .val (.ref b66), .val (.ref b74), .val (.ref b82), .val (.ref b90), .val (.ref b98), .val (.int ((x0 &&& (2147483647 : Int32)) % (7 : Int32))), .val (.ref b90), .val (.int (0 : Int32)), .val (.int (0 : Int32)), .val (.int (1 : Int32)), .val (.int (0 : Int32))] [])) _
              refine own_go (fun t_ k_ => XS.iconst X131.here hx rfl (hb hby at_373) k_) ?_
              show own_Goes p e below (T131.setTop (mkF m 374 #[.val (.int x0), .val (.int x1), .val (.int x2), .val (.int x3), .val (.int x4), .val (.int x5), .val (.int z1), .val (.int z2), .val (.int (1 : Int32)), .val (.ref b4), .val (.ref b18), .val (.ref b36), .val (.ref b47), .val (.ref b58), .val (.ref b66), .val (.ref b74), .val (.ref b82), .val (.ref b90), .val (.ref b98), .val (.int ((x0 &&& (2147483647 : Int32)) % (7 : Int32))), .val (.ref b90), .val (.int (0 : Int32)), .val (.int (0 : Int32)), .val (.int (1 : Int32)), .val (.int (0 : Int32))] [(.int (1 : Int32))])) _
              refine own_go (fun t_ k_ => XS.goto X131.here hx rfl (pc0 := 374) (pc' := 378) rfl (hb hby at_374) (by decide) (by decide) k_) ?_
              show own_Goes p e below (T131.setTop (mkF m 378 #[.val (.int x0), .val (.int x1), .val (.int x2), .val (.int x3), .val (.int x4), .val (.int x5), .val (.int z1), .val (.int z2), .val (.int (1 : Int32)), .val (.ref b4), .val (.ref b18), .val (.ref b36), .val (.ref b47), .val (.ref b58), .val (.ref b66), .val (.ref b74), .val (.ref b82), .val (.ref b90), .val (.ref b98), .val (.int ((x0 &&& (2147483647 : Int32)) % (7 : Int32))), .val (.ref b90), .val (.int (0 : Int32)), .val (.int (0 : Int32)), .val (.int (1 : Int32)), .val (.int (0 : Int32))] [(.int (1 : Int32))])) _
              refine own_endW X131 hS103 (show _ ≤ T131.heap.size by rw [e131]; exact hk103) (v := (some (.int (1 : Int32)))) (fun h => by rw [hret] at h; cases h) hlk (by decide) (by decide) ?_ (fun fs hr => retOut X131 hx hret rfl (Or.inl ⟨rfl, Or.inr (Or.inl rfl), _, rfl⟩) (hb hby at_378) hr)
              show Q_rm0 Z x0 x1 x2 x3 x4 x5 gz h0 n0 _ T131.heap _
              rw [e131]
              exact ⟨N131, trivial, rfl⟩
            · refine own_go (fun t_ k_ => XS.icmpYes X103.here hx rfl (pc0 := 246) (pc' := 259) rfl (hb hby at_246) rfl (feq hc119).2 (by decide) (by decide) k_) ?_
              show own_Goes p e below (T103.setTop (mkF m 259 #[.val (.int x0), .val (.int x1), .val (.int x2), .val (.int x3), .val (.int x4), .val (.int x5), .val (.int z1), .val (.int z2), .val (.int (1 : Int32)), .val (.ref b4), .val (.ref b18), .val (.ref b36), .val (.ref b47), .val (.ref b58), .val (.ref b66), .val (.ref b74), .val (.ref b82), .val (.ref b90), .val (.ref b98), .val (.int ((x0 &&& (2147483647 : Int32)) % (7 : Int32))), .unset, .unset, .unset, .unset, .unset] [])) _
              refine own_go (fun t_ k_ => XS.iload X103.here hx rfl (hb hby at_259) rfl k_) ?_
              show own_Goes p e below (T103.setTop (mkF m 261 #[.val (.int x0), .val (.int x1), .val (.int x2), .val (.int x3), .val (.int x4), .val (.int x5), .val (.int z1), .val (.int z2), .val (.int (1 : Int32)), .val (.ref b4), .val (.ref b18), .val (.ref b36), .val (.ref b47), .val (.ref b58), .val (.ref b66), .val (.ref b74), .val (.ref b82), .val (.ref b90), .val (.ref b98), .val (.int ((x0 &&& (2147483647 : Int32)) % (7 : Int32))), .unset, .unset, .unset, .unset, .unset] [(.int ((x0 &&& (2147483647 : Int32)) % (7 : Int32)))])) _
              refine own_go (fun t_ k_ => XS.iconst X103.here hx rfl (hb hby at_261) k_) ?_
              show own_Goes p e below (T103.setTop (mkF m 262 #[.val (.int x0), .val (.int x1), .val (.int x2), .val (.int x3), .val (.int x4), .val (.int x5), .val (.int z1), .val (.int z2), .val (.int (1 : Int32)), .val (.ref b4), .val (.ref b18), .val (.ref b36), .val (.ref b47), .val (.ref b58), .val (.ref b66), .val (.ref b74), .val (.ref b82), .val (.ref b90), .val (.ref b98), .val (.int ((x0 &&& (2147483647 : Int32)) % (7 : Int32))), .unset, .unset, .unset, .unset, .unset] [(.int (2 : Int32)), (.int ((x0 &&& (2147483647 : Int32)) % (7 : Int32)))])) _
              by_cases hc132 : ((x0 &&& (2147483647 : Int32)) % (7 : Int32)) = (2 : Int32)
              · refine own_go (fun t_ k_ => XS.icmpNo X103.here hx rfl (hb hby at_262) rfl (teq hc132).2 k_) ?_
                show own_Goes p e below (T103.setTop (mkF m 265 #[.val (.int x0), .val (.int x1), .val (.int x2), .val (.int x3), .val (.int x4), .val (.int x5), .val (.int z1), .val (.int z2), .val (.int (1 : Int32)), .val (.ref b4), .val (.ref b18), .val (.ref b36), .val (.ref b47), .val (.ref b58), .val (.ref b66), .val (.ref b74), .val (.ref b82), .val (.ref b90), .val (.ref b98), .val (.int ((x0 &&& (2147483647 : Int32)) % (7 : Int32))), .unset, .unset, .unset, .unset, .unset] [])) _
                refine own_go (fun t_ k_ => XS.aload X103.here hx rfl (hb hby at_265) rfl rfl k_) ?_
                show own_Goes p e below (T103.setTop (mkF m 267 #[.val (.int x0), .val (.int x1), .val (.int x2), .val (.int x3), .val (.int x4), .val (.int x5), .val (.int z1), .val (.int z2), .val (.int (1 : Int32)), .val (.ref b4), .val (.ref b18), .val (.ref b36), .val (.ref b47), .val (.ref b58), .val (.ref b66), .val (.ref b74), .val (.ref b82), .val (.ref b90), .val (.ref b98), .val (.int ((x0 &&& (2147483647 : Int32)) % (7 : Int32))), .unset, .unset, .unset, .unset, .unset] [(.ref b74)])) _
                refine own_go (fun t_ k_ => XS.astore X103.here hx rfl (hb hby at_267) rfl rfl (l' := #[.val (.int x0), .val (.int x1), .val (.int x2), .val (.int x3), .val (.int x4), .val (.int x5), .val (.int z1), .val (.int z2), .val (.int (1 : Int32)), .val (.ref b4), .val (.ref b18), .val (.ref b36), .val (.ref b47), .val (.ref b58), .val (.ref b66), .val (.ref b74), .val (.ref b82), .val (.ref b90), .val (.ref b98), .val (.int ((x0 &&& (2147483647 : Int32)) % (7 : Int32))), .val (.ref b74), .unset, .unset, .unset, .unset]) rfl k_) ?_
                show own_Goes p e below (T103.setTop (mkF m 269 #[.val (.int x0), .val (.int x1), .val (.int x2), .val (.int x3), .val (.int x4), .val (.int x5), .val (.int z1), .val (.int z2), .val (.int (1 : Int32)), .val (.ref b4), .val (.ref b18), .val (.ref b36), .val (.ref b47), .val (.ref b58), .val (.ref b66), .val (.ref b74), .val (.ref b82), .val (.ref b90), .val (.ref b98), .val (.int ((x0 &&& (2147483647 : Int32)) % (7 : Int32))), .val (.ref b74), .unset, .unset, .unset, .unset] [])) _
                refine own_go (fun t_ k_ => XS.iconst X103.here hx rfl (hb hby at_269) k_) ?_
                show own_Goes p e below (T103.setTop (mkF m 270 #[.val (.int x0), .val (.int x1), .val (.int x2), .val (.int x3), .val (.int x4), .val (.int x5), .val (.int z1), .val (.int z2), .val (.int (1 : Int32)), .val (.ref b4), .val (.ref b18), .val (.ref b36), .val (.ref b47), .val (.ref b58), .val (.ref b66), .val (.ref b74), .val (.ref b82), .val (.ref b90), .val (.ref b98), .val (.int ((x0 &&& (2147483647 : Int32)) % (7 : Int32))), .val (.ref b74), .unset, .unset, .unset, .unset] [(.int (1 : Int32))])) _
                refine own_go (fun t_ k_ => XS.istore X103.here hx rfl (hb hby at_270) rfl (l' := #[.val (.int x0), .val (.int x1), .val (.int x2), .val (.int x3), .val (.int x4), .val (.int x5), .val (.int z1), .val (.int z2), .val (.int (1 : Int32)), .val (.ref b4), .val (.ref b18), .val (.ref b36), .val (.ref b47), .val (.ref b58), .val (.ref b66), .val (.ref b74), .val (.ref b82), .val (.ref b90), .val (.ref b98), .val (.int ((x0 &&& (2147483647 : Int32)) % (7 : Int32))), .val (.ref b74), .val (.int (1 : Int32)), .unset, .unset, .unset]) rfl k_) ?_
                show own_Goes p e below (T103.setTop (mkF m 272 #[.val (.int x0), .val (.int x1), .val (.int x2), .val (.int x3), .val (.int x4), .val (.int x5), .val (.int z1), .val (.int z2), .val (.int (1 : Int32)), .val (.ref b4), .val (.ref b18), .val (.ref b36), .val (.ref b47), .val (.ref b58), .val (.ref b66), .val (.ref b74), .val (.ref b82), .val (.ref b90), .val (.ref b98), .val (.int ((x0 &&& (2147483647 : Int32)) % (7 : Int32))), .val (.ref b74), .val (.int (1 : Int32)), .unset, .unset, .unset] [])) _
                refine own_go (fun t_ k_ => XS.goto X103.here hx rfl (pc0 := 272) (pc' := 329) rfl (hb hby at_272) (by decide) (by decide) k_) ?_
                show own_Goes p e below (T103.setTop (mkF m 329 #[.val (.int x0), .val (.int x1), .val (.int x2), .val (.int x3), .val (.int x4), .val (.int x5), .val (.int z1), .val (.int z2), .val (.int (1 : Int32)), .val (.ref b4), .val (.ref b18), .val (.ref b36), .val (.ref b47), .val (.ref b58), .val (.ref b66), .val (.ref b74), .val (.ref b82), .val (.ref b90), .val (.ref b98), .val (.int ((x0 &&& (2147483647 : Int32)) % (7 : Int32))), .val (.ref b74), .val (.int (1 : Int32)), .unset, .unset, .unset] [])) _
                refine own_go (fun t_ k_ => XS.aload X103.here hx rfl (hb hby at_329) rfl rfl k_) ?_
                show own_Goes p e below (T103.setTop (mkF m 331 #[.val (.int x0), .val (.int x1), .val (.int x2), .val (.int x3), .val (.int x4), .val (.int x5), .val (.int z1), .val (.int z2), .val (.int (1 : Int32)), .val (.ref b4), .val (.ref b18), .val (.ref b36), .val (.ref b47), .val (.ref b58), .val (.ref b66), .val (.ref b74), .val (.ref b82), .val (.ref b90), .val (.ref b98), .val (.int ((x0 &&& (2147483647 : Int32)) % (7 : Int32))), .val (.ref b74), .val (.int (1 : Int32)), .unset, .unset, .unset] [(.ref b74)])) _
                refine own_go (fun t_ k_ => XS.aload X103.here hx rfl (hb hby at_331) rfl rfl k_) ?_
                show own_Goes p e below (T103.setTop (mkF m 333 #[.val (.int x0), .val (.int x1), .val (.int x2), .val (.int x3), .val (.int x4), .val (.int x5), .val (.int z1), .val (.int z2), .val (.int (1 : Int32)), .val (.ref b4), .val (.ref b18), .val (.ref b36), .val (.ref b47), .val (.ref b58), .val (.ref b66), .val (.ref b74), .val (.ref b82), .val (.ref b90), .val (.ref b98), .val (.int ((x0 &&& (2147483647 : Int32)) % (7 : Int32))), .val (.ref b74), .val (.int (1 : Int32)), .unset, .unset, .unset] [(.ref b74), (.ref b74)])) _
                have f133 := (((((((A74.keep Kc79).ext E82).keep Kc87).ext E90).keep Kc95).ext E98).keep Kc103)
                have f134 := ((((((c79_0.ext E82).keep Kc87 (ninS (own_ne (a := b74) (b := b82) (by omega)) nin0)).ext E90).keep Kc95 (ninS (own_ne (a := b74) (b := b90) (by omega)) nin0)).ext E98).keep Kc103 (ninS (own_ne (a := b74) (b := b98) (by omega)) nin0))
                obtain ⟨cqiv135, kqiv135, qiv135a, qiv135b, qiv135c⟩ := isOf hZ103 e103 f133
                obtain ⟨_, _, ⟨T136, L136, k136, n136⟩, -, X136, ⟨Lc136, hQ136, l136, y136, z136⟩, st136⟩ := X103.virtualBack hx (y := own_m12) (z := own_m12) hown103 (mvT hZ103 (hw _ (List.mem_of_getElem? (i := 80) rfl))) (mvT hZ103 (hw _ (List.mem_of_getElem? (i := 81) rfl))) (notFace_of_selects (args := #[]) (mvT hZ103 (hw _ (List.mem_of_getElem? (i := 83) rfl)))) (mvT hZ103 (hw _ (List.mem_of_getElem? (i := 83) rfl))) (mvT hZ103 (hw _ (List.mem_of_getElem? (i := 82) rfl))) (by decide) (backOf (W := 0) (own_eqT l Z a0 hw [] b74 b74 b58 h103 n0 O104 f133 f134 f134) hZ103 (hw _ (List.mem_of_getElem? (i := 84) rfl)) (hw _ (List.mem_of_getElem? (i := 51) rfl)) (by decide) (by decide)) qiv135a qiv135c (g := (mkF m 333 #[.val (.int x0), .val (.int x1), .val (.int x2), .val (.int x3), .val (.int x4), .val (.int x5), .val (.int z1), .val (.int z2), .val (.int (1 : Int32)), .val (.ref b4), .val (.ref b18), .val (.ref b36), .val (.ref b47), .val (.ref b58), .val (.ref b66), .val (.ref b74), .val (.ref b82), .val (.ref b90), .val (.ref b98), .val (.int ((x0 &&& (2147483647 : Int32)) % (7 : Int32))), .val (.ref b74), .val (.int (1 : Int32)), .unset, .unset, .unset] [(.ref b74), (.ref b74)])) rfl (by rw [hml]; rfl) (Steps.refl _) (argsL := [(.ref b74)]) (rest := []) (lenOf own_pd_11 rfl) rfl (by show 2 * 0 + _ ≤ _; exact Nat.le_of_eq rfl) (hb hby at_333) (fun _ _ => ⟨rfl, e103, (by decide : 24 + 0 ≤ _), (by decide : 168 + 0 ≤ _)⟩)
                dsimp only [Pt.U, Pt.locs, Pt.cells, Pt.slots] at X136 l136 y136 z136 st136 hQ136
                subst l136 y136 z136
                obtain ⟨Nc136, e136, rfl⟩ := hQ136
                have N136 := Fr.app N103 Nc136
                refine own_goS st136 ?_
                show own_Goes p e below (T136.setTop (mkF m 336 #[.val (.int x0), .val (.int x1), .val (.int x2), .val (.int x3), .val (.int x4), .val (.int x5), .val (.int z1), .val (.int z2), .val (.int (1 : Int32)), .val (.ref b4), .val (.ref b18), .val (.ref b36), .val (.ref b47), .val (.ref b58), .val (.ref b66), .val (.ref b74), .val (.ref b82), .val (.ref b90), .val (.ref b98), .val (.int ((x0 &&& (2147483647 : Int32)) % (7 : Int32))), .val (.ref b74), .val (.int (1 : Int32)), .unset, .unset, .unset] [(.int (1 : Int32))])) _
                refine own_go (fun t_ k_ => XS.istore X136.here hx rfl (hb hby at_336) rfl (l' := #[.val (.int x0), .val (.int x1), .val (.int x2), .val (.int x3), .val (.int x4), .val (.int x5), .val (.int z1), .val (.int z2), .val (.int (1 : Int32)), .val (.ref b4), .val (.ref b18), .val (.ref b36), .val (.ref b47), .val (.ref b58), .val (.ref b66), .val (.ref b74), .val (.ref b82), .val (.ref b90), .val (.ref b98), .val (.int ((x0 &&& (2147483647 : Int32)) % (7 : Int32))), .val (.ref b74), .val (.int (1 : Int32)), .val (.int (1 : Int32)), .unset, .unset]) rfl k_) ?_
                show own_Goes p e below (T136.setTop (mkF m 338 #[.val (.int x0), .val (.int x1), .val (.int x2), .val (.int x3), .val (.int x4), .val (.int x5), .val (.int z1), .val (.int z2), .val (.int (1 : Int32)), .val (.ref b4), .val (.ref b18), .val (.ref b36), .val (.ref b47), .val (.ref b58), .val (.ref b66), .val (.ref b74), .val (.ref b82), .val (.ref b90), .val (.ref b98), .val (.int ((x0 &&& (2147483647 : Int32)) % (7 : Int32))), .val (.ref b74), .val (.int (1 : Int32)), .val (.int (1 : Int32)), .unset, .unset] [])) _
                refine own_go (fun t_ k_ => XS.aload X136.here hx rfl (hb hby at_338) rfl rfl k_) ?_
                show own_Goes p e below (T136.setTop (mkF m 340 #[.val (.int x0), .val (.int x1), .val (.int x2), .val (.int x3), .val (.int x4), .val (.int x5), .val (.int z1), .val (.int z2), .val (.int (1 : Int32)), .val (.ref b4), .val (.ref b18), .val (.ref b36), .val (.ref b47), .val (.ref b58), .val (.ref b66), .val (.ref b74), .val (.ref b82), .val (.ref b90), .val (.ref b98), .val (.int ((x0 &&& (2147483647 : Int32)) % (7 : Int32))), .val (.ref b74), .val (.int (1 : Int32)), .val (.int (1 : Int32)), .unset, .unset] [(.ref b82)])) _
                refine own_go (fun t_ k_ => XS.aload X136.here hx rfl (hb hby at_340) rfl rfl k_) ?_
                show own_Goes p e below (T136.setTop (mkF m 342 #[.val (.int x0), .val (.int x1), .val (.int x2), .val (.int x3), .val (.int x4), .val (.int x5), .val (.int z1), .val (.int z2), .val (.int (1 : Int32)), .val (.ref b4), .val (.ref b18), .val (.ref b36), .val (.ref b47), .val (.ref b58), .val (.ref b66), .val (.ref b74), .val (.ref b82), .val (.ref b90), .val (.ref b98), .val (.int ((x0 &&& (2147483647 : Int32)) % (7 : Int32))), .val (.ref b74), .val (.int (1 : Int32)), .val (.int (1 : Int32)), .unset, .unset] [(.ref b74), (.ref b82)])) _
                have f137 := ((((c87_0.ext E90).keep Kc95 (ninS (own_ne (a := b82) (b := b90) (by omega)) nin0)).ext E98).keep Kc103 (ninS (own_ne (a := b82) (b := b98) (by omega)) nin0))
                have f138 := (((((A82.keep Kc87).ext E90).keep Kc95).ext E98).keep Kc103)
                obtain ⟨cqiv139, kqiv139, qiv139a, qiv139b, qiv139c⟩ := isOf hZ103 e136 f138
                obtain ⟨_, _, ⟨T140, L140, k140, n140⟩, -, X140, ⟨Lc140, hQ140, l140, y140, z140⟩, st140⟩ := X136.virtualBack hx (y := own_m12) (z := own_m12) hown103 (mvT hZ103 (hw _ (List.mem_of_getElem? (i := 80) rfl))) (mvT hZ103 (hw _ (List.mem_of_getElem? (i := 81) rfl))) (notFace_of_selects (args := #[]) (mvT hZ103 (hw _ (List.mem_of_getElem? (i := 83) rfl)))) (mvT hZ103 (hw _ (List.mem_of_getElem? (i := 83) rfl))) (mvT hZ103 (hw _ (List.mem_of_getElem? (i := 82) rfl))) (by decide) (backOf (W := 0) (own_eqT l Z a0 hw [] b82 b74 b58 h103 n0 O104 f133 f137 f134) hZ103 (hw _ (List.mem_of_getElem? (i := 84) rfl)) (hw _ (List.mem_of_getElem? (i := 51) rfl)) (by decide) (by decide)) qiv139a qiv139c (g := (mkF m 342 #[.val (.int x0), .val (.int x1), .val (.int x2), .val (.int x3), .val (.int x4), .val (.int x5), .val (.int z1), .val (.int z2), .val (.int (1 : Int32)), .val (.ref b4), .val (.ref b18), .val (.ref b36), .val (.ref b47), .val (.ref b58), .val (.ref b66), .val (.ref b74), .val (.ref b82), .val (.ref b90), .val (.ref b98), .val (.int ((x0 &&& (2147483647 : Int32)) % (7 : Int32))), .val (.ref b74), .val (.int (1 : Int32)), .val (.int (1 : Int32)), .unset, .unset] [(.ref b74), (.ref b82)])) rfl (by rw [hml]; rfl) (Steps.refl _) (argsL := [(.ref b74)]) (rest := []) (lenOf own_pd_11 rfl) rfl (by show 2 * 0 + _ ≤ _; exact Nat.le_of_eq rfl) (hb hby at_342) (fun _ _ => ⟨rfl, e136, (by decide : 24 + 0 ≤ _), (by decide : 168 + 0 ≤ _)⟩)
                dsimp only [Pt.U, Pt.locs, Pt.cells, Pt.slots] at X140 l140 y140 z140 st140 hQ140
                subst l140 y140 z140
                obtain ⟨Nc140, e140, rfl⟩ := hQ140
                have N140 := Fr.app N136 Nc140
                refine own_goS st140 ?_
                show own_Goes p e below (T140.setTop (mkF m 345 #[.val (.int x0), .val (.int x1), .val (.int x2), .val (.int x3), .val (.int x4), .val (.int x5), .val (.int z1), .val (.int z2), .val (.int (1 : Int32)), .val (.ref b4), .val (.ref b18), .val (.ref b36), .val (.ref b47), .val (.ref b58), .val (.ref b66), .val (.ref b74), .val (.ref b82), .val (.ref b90), .val (.ref b98), .val (.int ((x0 &&& (2147483647 : Int32)) % (7 : Int32))), .val (.ref b74), .val (.int (1 : Int32)), .val (.int (1 : Int32)), .unset, .unset] [(.int (1 : Int32))])) _
                refine own_go (fun t_ k_ => XS.istore X140.here hx rfl (hb hby at_345) rfl (l' := #[.val (.int x0), .val (.int x1), .val (.int x2), .val (.int x3), .val (.int x4), .val (.int x5), .val (.int z1), .val (.int z2), .val (.int (1 : Int32)), .val (.ref b4), .val (.ref b18), .val (.ref b36), .val (.ref b47), .val (.ref b58), .val (.ref b66), .val (.ref b74), .val (.ref b82), .val (.ref b90), .val (.ref b98), .val (.int ((x0 &&& (2147483647 : Int32)) % (7 : Int32))), .val (.ref b74), .val (.int (1 : Int32)), .val (.int (1 : Int32)), .val (.int (1 : Int32)), .unset]) rfl k_) ?_
                show own_Goes p e below (T140.setTop (mkF m 347 #[.val (.int x0), .val (.int x1), .val (.int x2), .val (.int x3), .val (.int x4), .val (.int x5), .val (.int z1), .val (.int z2), .val (.int (1 : Int32)), .val (.ref b4), .val (.ref b18), .val (.ref b36), .val (.ref b47), .val (.ref b58), .val (.ref b66), .val (.ref b74), .val (.ref b82), .val (.ref b90), .val (.ref b98), .val (.int ((x0 &&& (2147483647 : Int32)) % (7 : Int32))), .val (.ref b74), .val (.int (1 : Int32)), .val (.int (1 : Int32)), .val (.int (1 : Int32)), .unset] [])) _
                refine own_go (fun t_ k_ => XS.aload X140.here hx rfl (hb hby at_347) rfl rfl k_) ?_
                show own_Goes p e below (T140.setTop (mkF m 349 #[.val (.int x0), .val (.int x1), .val (.int x2), .val (.int x3), .val (.int x4), .val (.int x5), .val (.int z1), .val (.int z2), .val (.int (1 : Int32)), .val (.ref b4), .val (.ref b18), .val (.ref b36), .val (.ref b47), .val (.ref b58), .val (.ref b66), .val (.ref b74), .val (.ref b82), .val (.ref b90), .val (.ref b98), .val (.int ((x0 &&& (2147483647 : Int32)) % (7 : Int32))), .val (.ref b74), .val (.int (1 : Int32)), .val (.int (1 : Int32)), .val (.int (1 : Int32)), .unset] [(.ref b90)])) _
                refine own_go (fun t_ k_ => XS.aload X140.here hx rfl (hb hby at_349) rfl rfl k_) ?_
                show own_Goes p e below (T140.setTop (mkF m 351 #[.val (.int x0), .val (.int x1), .val (.int x2), .val (.int x3), .val (.int x4), .val (.int x5), .val (.int z1), .val (.int z2), .val (.int (1 : Int32)), .val (.ref b4), .val (.ref b18), .val (.ref b36), .val (.ref b47), .val (.ref b58), .val (.ref b66), .val (.ref b74), .val (.ref b82), .val (.ref b90), .val (.ref b98), .val (.int ((x0 &&& (2147483647 : Int32)) % (7 : Int32))), .val (.ref b74), .val (.int (1 : Int32)), .val (.int (1 : Int32)), .val (.int (1 : Int32)), .unset] [(.ref b74), (.ref b90)])) _
                have f141 := ((c95_0.ext E98).keep Kc103 (ninS (own_ne (a := b90) (b := b98) (by omega)) nin0))
                have f142 := (((A90.keep Kc95).ext E98).keep Kc103)
                obtain ⟨cqiv143, kqiv143, qiv143a, qiv143b, qiv143c⟩ := isOf hZ103 e140 f142
                obtain ⟨_, _, ⟨T144, L144, k144, n144⟩, -, X144, ⟨Lc144, hQ144, l144, y144, z144⟩, st144⟩ := X140.virtualBack hx (y := own_m12) (z := own_m12) hown103 (mvT hZ103 (hw _ (List.mem_of_getElem? (i := 80) rfl))) (mvT hZ103 (hw _ (List.mem_of_getElem? (i := 81) rfl))) (notFace_of_selects (args := #[]) (mvT hZ103 (hw _ (List.mem_of_getElem? (i := 83) rfl)))) (mvT hZ103 (hw _ (List.mem_of_getElem? (i := 83) rfl))) (mvT hZ103 (hw _ (List.mem_of_getElem? (i := 82) rfl))) (by decide) (backOf (W := 0) (own_eqF l Z a0 hw [] b90 b74 b66 b58 h103 n0 O104 f133 f141 f134 (show ¬ b58 = b66 from (by omega))) hZ103 (hw _ (List.mem_of_getElem? (i := 84) rfl)) (hw _ (List.mem_of_getElem? (i := 51) rfl)) (by decide) (by decide)) qiv143a qiv143c (g := (mkF m 351 #[.val (.int x0), .val (.int x1), .val (.int x2), .val (.int x3), .val (.int x4), .val (.int x5), .val (.int z1), .val (.int z2), .val (.int (1 : Int32)), .val (.ref b4), .val (.ref b18), .val (.ref b36), .val (.ref b47), .val (.ref b58), .val (.ref b66), .val (.ref b74), .val (.ref b82), .val (.ref b90), .val (.ref b98), .val (.int ((x0 &&& (2147483647 : Int32)) % (7 : Int32))), .val (.ref b74), .val (.int (1 : Int32)), .val (.int (1 : Int32)), .val (.int (1 : Int32)), .unset] [(.ref b74), (.ref b90)])) rfl (by rw [hml]; rfl) (Steps.refl _) (argsL := [(.ref b74)]) (rest := []) (lenOf own_pd_11 rfl) rfl (by show 2 * 0 + _ ≤ _; exact Nat.le_of_eq rfl) (hb hby at_351) (fun _ _ => ⟨rfl, e140, (by decide : 24 + 0 ≤ _), (by decide : 168 + 0 ≤ _)⟩)
                dsimp only [Pt.U, Pt.locs, Pt.cells, Pt.slots] at X144 l144 y144 z144 st144 hQ144
                subst l144 y144 z144
                obtain ⟨Nc144, e144, rfl⟩ := hQ144
                have N144 := Fr.app N140 Nc144
                refine own_goS st144 ?_
                show own_Goes p e below (T144.setTop (mkF m 354 #[.val (.int x0), .val (.int x1), .val (.int x2), .val (.int x3), .val (.int x4), .val (.int x5), .val (.int z1), .val (.int z2), .val (.int (1 : Int32)), .val (.ref b4), .val (.ref b18), .val (.ref b36), .val (.ref b47), .val (.ref b58), .val (.ref b66), .val (.ref b74), .val (.ref b82), .val (.ref b90), .val (.ref b98), .val (.int ((x0 &&& (2147483647 : Int32)) % (7 : Int32))), .val (.ref b74), .val (.int (1 : Int32)), .val (.int (1 : Int32)), .val (.int (1 : Int32)), .unset] [(.int (0 : Int32))])) _
                refine own_go (fun t_ k_ => XS.istore X144.here hx rfl (hb hby at_354) rfl (l' := #[.val (.int x0), .val (.int x1), .val (.int x2), .val (.int x3), .val (.int x4), .val (.int x5), .val (.int z1), .val (.int z2), .val (.int (1 : Int32)), .val (.ref b4), .val (.ref b18), .val (.ref b36), .val (.ref b47), .val (.ref b58), .val (.ref b66), .val (.ref b74), .val (.ref b82), .val (.ref b90), .val (.ref b98), .val (.int ((x0 &&& (2147483647 : Int32)) % (7 : Int32))), .val (.ref b74), .val (.int (1 : Int32)), .val (.int (1 : Int32)), .val (.int (1 : Int32)), .val (.int (0 : Int32))]) rfl k_) ?_
                show own_Goes p e below (T144.setTop (mkF m 356 #[.val (.int x0), .val (.int x1), .val (.int x2), .val (.int x3), .val (.int x4), .val (.int x5), .val (.int z1), .val (.int z2), .val (.int (1 : Int32)), .val (.ref b4), .val (.ref b18), .val (.ref b36), .val (.ref b47), .val (.ref b58), .val (.ref b66), .val (.ref b74), .val (.ref b82), .val (.ref b90), .val (.ref b98), .val (.int ((x0 &&& (2147483647 : Int32)) % (7 : Int32))), .val (.ref b74), .val (.int (1 : Int32)), .val (.int (1 : Int32)), .val (.int (1 : Int32)), .val (.int (0 : Int32))] [])) _
                refine own_go (fun t_ k_ => XS.iload X144.here hx rfl (hb hby at_356) rfl k_) ?_
                show own_Goes p e below (T144.setTop (mkF m 358 #[.val (.int x0), .val (.int x1), .val (.int x2), .val (.int x3), .val (.int x4), .val (.int x5), .val (.int z1), .val (.int z2), .val (.int (1 : Int32)), .val (.ref b4), .val (.ref b18), .val (.ref b36), .val (.ref b47), .val (.ref b58), .val (.ref b66), .val (.ref b74), .val (.ref b82), .val (.ref b90), .val (.ref b98), .val (.int ((x0 &&& (2147483647 : Int32)) % (7 : Int32))), .val (.ref b74), .val (.int (1 : Int32)), .val (.int (1 : Int32)), .val (.int (1 : Int32)), .val (.int (0 : Int32))] [(.int (1 : Int32))])) _
                refine own_go (fun t_ k_ => XS.iload X144.here hx rfl (hb hby at_358) rfl k_) ?_
                show own_Goes p e below (T144.setTop (mkF m 360 #[.val (.int x0), .val (.int x1), .val (.int x2), .val (.int x3), .val (.int x4), .val (.int x5), .val (.int z1), .val (.int z2), .val (.int (1 : Int32)), .val (.ref b4), .val (.ref b18), .val (.ref b36), .val (.ref b47), .val (.ref b58), .val (.ref b66), .val (.ref b74), .val (.ref b82), .val (.ref b90), .val (.ref b98), .val (.int ((x0 &&& (2147483647 : Int32)) % (7 : Int32))), .val (.ref b74), .val (.int (1 : Int32)), .val (.int (1 : Int32)), .val (.int (1 : Int32)), .val (.int (0 : Int32))] [(.int (1 : Int32)), (.int (1 : Int32))])) _
                refine own_go (fun t_ k_ => XS.icmpNo X144.here hx rfl (hb hby at_360) rfl (teq (show ((1 : Int32) = (1 : Int32)) from by decide)).2 k_) ?_
                show own_Goes p e below (T144.setTop (mkF m 363 #[.val (.int x0), .val (.int x1), .val (.int x2), .val (.int x3), .val (.int x4), .val (.int x5), .val (.int z1), .val (.int z2), .val (.int (1 : Int32)), .val (.ref b4), .val (.ref b18), .val (.ref b36), .val (.ref b47), .val (.ref b58), .val (.ref b66), .val (.ref b74), .val (.ref b82), .val (.ref b90), .val (.ref b98), .val (.int ((x0 &&& (2147483647 : Int32)) % (7 : Int32))), .val (.ref b74), .val (.int (1 : Int32)), .val (.int (1 : Int32)), .val (.int (1 : Int32)), .val (.int (0 : Int32))] [])) _
                refine own_go (fun t_ k_ => XS.iload X144.here hx rfl (hb hby at_363) rfl k_) ?_
                show own_Goes p e below (T144.setTop (mkF m 365 #[.val (.int x0), .val (.int x1), .val (.int x2), .val (.int x3), .val (.int x4), .val (.int x5), .val (.int z1), .val (.int z2), .val (.int (1 : Int32)), .val (.ref b4), .val (.ref b18), .val (.ref b36), .val (.ref b47), .val (.ref b58), .val (.ref b66), .val (.ref b74), .val (.ref b82), .val (.ref b90), .val (.ref b98), .val (.int ((x0 &&& (2147483647 : Int32)) % (7 : Int32))), .val (.ref b74), .val (.int (1 : Int32)), .val (.int (1 : Int32)), .val (.int (1 : Int32)), .val (.int (0 : Int32))] [(.int (1 : Int32))])) _
                refine own_go (fun t_ k_ => XS.ifNo X144.here hx rfl (hb hby at_365) rfl ((if0 _ _).trans (feq (show ¬ ((1 : Int32) = (0 : Int32)) from by decide)).1) k_) ?_
                show own_Goes p e below (T144.setTop (mkF m 368 #[.val (.int x0), .val (.int x1), .val (.int x2), .val (.int x3), .val (.int x4), .val (.int x5), .val (.int z1), .val (.int z2), .val (.int (1 : Int32)), .val (.ref b4), .val (.ref b18), .val (.ref b36), .val (.ref b47), .val (.ref b58), .val (.ref b66), .val (.ref b74), .val (.ref b82), .val (.ref b90), .val (.ref b98), .val (.int ((x0 &&& (2147483647 : Int32)) % (7 : Int32))), .val (.ref b74), .val (.int (1 : Int32)), .val (.int (1 : Int32)), .val (.int (1 : Int32)), .val (.int (0 : Int32))] [])) _
                refine own_go (fun t_ k_ => XS.iload X144.here hx rfl (hb hby at_368) rfl k_) ?_
                show own_Goes p e below (T144.setTop (mkF m 370 #[.val (.int x0), .val (.int x1), .val (.int x2), .val (.int x3), .val (.int x4), .val (.int x5), .val (.int z1), .val (.int z2), .val (.int (1 : Int32)), .val (.ref b4), .val (.ref b18), .val (.ref b36), .val (.ref b47), .val (.ref b58), .val (.ref b66), .val (.ref b74), .val (.ref b82), .val (.ref b90), .val (.ref b98), .val (.int ((x0 &&& (2147483647 : Int32)) % (7 : Int32))), .val (.ref b74), .val (.int (1 : Int32)), .val (.int (1 : Int32)), .val (.int (1 : Int32)), .val (.int (0 : Int32))] [(.int (0 : Int32))])) _
                refine own_go (fun t_ k_ => XS.ifNo X144.here hx rfl (hb hby at_370) rfl ((if0 _ _).trans (teq (show ((0 : Int32) = (0 : Int32)) from by decide)).2) k_) ?_
                show own_Goes p e below (T144.setTop (mkF m 373 #[.val (.int x0), .val (.int x1), .val (.int x2), .val (.int x3), .val (.int x4), .val (.int x5), .val (.int z1), .val (.int z2), .val (.int (1 : Int32)), .val (.ref b4), .val (.ref b18), .val (.ref b36), .val (.ref b47), .val (.ref b58), .val (.ref b66), .val (.ref b74), .val (.ref b82), .val (.ref b90), .val (.ref b98), .val (.int ((x0 &&& (2147483647 : Int32)) % (7 : Int32))), .val (.ref b74), .val (.int (1 : Int32)), .val (.int (1 : Int32)), .val (.int (1 : Int32)), .val (.int (0 : Int32))] [])) _
                refine own_go (fun t_ k_ => XS.iconst X144.here hx rfl (hb hby at_373) k_) ?_
                show own_Goes p e below (T144.setTop (mkF m 374 #[.val (.int x0), .val (.int x1), .val (.int x2), .val (.int x3), .val (.int x4), .val (.int x5), .val (.int z1), .val (.int z2), .val (.int (1 : Int32)), .val (.ref b4), .val (.ref b18), .val (.ref b36), .val (.ref b47), .val (.ref b58), .val (.ref b66), .val (.ref b74), .val (.ref b82), .val (.ref b90), .val (.ref b98), .val (.int ((x0 &&& (2147483647 : Int32)) % (7 : Int32))), .val (.ref b74), .val (.int (1 : Int32)), .val (.int (1 : Int32)), .val (.int (1 : Int32)), .val (.int (0 : Int32))] [(.int (1 : Int32))])) _
                refine own_go (fun t_ k_ => XS.goto X144.here hx rfl (pc0 := 374) (pc' := 378) rfl (hb hby at_374) (by decide) (by decide) k_) ?_
                show own_Goes p e below (T144.setTop (mkF m 378 #[.val (.int x0), .val (.int x1), .val (.int x2), .val (.int x3), .val (.int x4), .val (.int x5), .val (.int z1), .val (.int z2), .val (.int (1 : Int32)), .val (.ref b4), .val (.ref b18), .val (.ref b36), .val (.ref b47), .val (.ref b58), .val (.ref b66), .val (.ref b74), .val (.ref b82), .val (.ref b90), .val (.ref b98), .val (.int ((x0 &&& (2147483647 : Int32)) % (7 : Int32))), .val (.ref b74), .val (.int (1 : Int32)), .val (.int (1 : Int32)), .val (.int (1 : Int32)), .val (.int (0 : Int32))] [(.int (1 : Int32))])) _
                refine own_endW X144 hS103 (show _ ≤ T144.heap.size by rw [e144]; exact hk103) (v := (some (.int (1 : Int32)))) (fun h => by rw [hret] at h; cases h) hlk (by decide) (by decide) ?_ (fun fs hr => retOut X144 hx hret rfl (Or.inl ⟨rfl, Or.inr (Or.inl rfl), _, rfl⟩) (hb hby at_378) hr)
                show Q_rm0 Z x0 x1 x2 x3 x4 x5 gz h0 n0 _ T144.heap _
                rw [e144]
                exact ⟨N144, trivial, rfl⟩
              · refine own_go (fun t_ k_ => XS.icmpYes X103.here hx rfl (pc0 := 262) (pc' := 275) rfl (hb hby at_262) rfl (feq hc132).2 (by decide) (by decide) k_) ?_
                show own_Goes p e below (T103.setTop (mkF m 275 #[.val (.int x0), .val (.int x1), .val (.int x2), .val (.int x3), .val (.int x4), .val (.int x5), .val (.int z1), .val (.int z2), .val (.int (1 : Int32)), .val (.ref b4), .val (.ref b18), .val (.ref b36), .val (.ref b47), .val (.ref b58), .val (.ref b66), .val (.ref b74), .val (.ref b82), .val (.ref b90), .val (.ref b98), .val (.int ((x0 &&& (2147483647 : Int32)) % (7 : Int32))), .unset, .unset, .unset, .unset, .unset] [])) _
                refine own_go (fun t_ k_ => XS.iload X103.here hx rfl (hb hby at_275) rfl k_) ?_
                show own_Goes p e below (T103.setTop (mkF m 277 #[.val (.int x0), .val (.int x1), .val (.int x2), .val (.int x3), .val (.int x4), .val (.int x5), .val (.int z1), .val (.int z2), .val (.int (1 : Int32)), .val (.ref b4), .val (.ref b18), .val (.ref b36), .val (.ref b47), .val (.ref b58), .val (.ref b66), .val (.ref b74), .val (.ref b82), .val (.ref b90), .val (.ref b98), .val (.int ((x0 &&& (2147483647 : Int32)) % (7 : Int32))), .unset, .unset, .unset, .unset, .unset] [(.int ((x0 &&& (2147483647 : Int32)) % (7 : Int32)))])) _
                refine own_go (fun t_ k_ => XS.iconst X103.here hx rfl (hb hby at_277) k_) ?_
                show own_Goes p e below (T103.setTop (mkF m 278 #[.val (.int x0), .val (.int x1), .val (.int x2), .val (.int x3), .val (.int x4), .val (.int x5), .val (.int z1), .val (.int z2), .val (.int (1 : Int32)), .val (.ref b4), .val (.ref b18), .val (.ref b36), .val (.ref b47), .val (.ref b58), .val (.ref b66), .val (.ref b74), .val (.ref b82), .val (.ref b90), .val (.ref b98), .val (.int ((x0 &&& (2147483647 : Int32)) % (7 : Int32))), .unset, .unset, .unset, .unset, .unset] [(.int (3 : Int32)), (.int ((x0 &&& (2147483647 : Int32)) % (7 : Int32)))])) _
                by_cases hc145 : ((x0 &&& (2147483647 : Int32)) % (7 : Int32)) = (3 : Int32)
                · refine own_go (fun t_ k_ => XS.icmpNo X103.here hx rfl (hb hby at_278) rfl (teq hc145).2 k_) ?_
                  show own_Goes p e below (T103.setTop (mkF m 281 #[.val (.int x0), .val (.int x1), .val (.int x2), .val (.int x3), .val (.int x4), .val (.int x5), .val (.int z1), .val (.int z2), .val (.int (1 : Int32)), .val (.ref b4), .val (.ref b18), .val (.ref b36), .val (.ref b47), .val (.ref b58), .val (.ref b66), .val (.ref b74), .val (.ref b82), .val (.ref b90), .val (.ref b98), .val (.int ((x0 &&& (2147483647 : Int32)) % (7 : Int32))), .unset, .unset, .unset, .unset, .unset] [])) _
                  refine own_go (fun t_ k_ => XS.aload X103.here hx rfl (hb hby at_281) rfl rfl k_) ?_
                  show own_Goes p e below (T103.setTop (mkF m 283 #[.val (.int x0), .val (.int x1), .val (.int x2), .val (.int x3), .val (.int x4), .val (.int x5), .val (.int z1), .val (.int z2), .val (.int (1 : Int32)), .val (.ref b4), .val (.ref b18), .val (.ref b36), .val (.ref b47), .val (.ref b58), .val (.ref b66), .val (.ref b74), .val (.ref b82), .val (.ref b90), .val (.ref b98), .val (.int ((x0 &&& (2147483647 : Int32)) % (7 : Int32))), .unset, .unset, .unset, .unset, .unset] [(.ref b98)])) _
                  refine own_go (fun t_ k_ => XS.astore X103.here hx rfl (hb hby at_283) rfl rfl (l' := #[.val (.int x0), .val (.int x1), .val (.int x2), .val (.int x3), .val (.int x4), .val (.int x5), .val (.int z1), .val (.int z2), .val (.int (1 : Int32)), .val (.ref b4), .val (.ref b18), .val (.ref b36), .val (.ref b47), .val (.ref b58), .val (.ref b66), .val (.ref b74), .val (.ref b82), .val (.ref b90), .val (.ref b98), .val (.int ((x0 &&& (2147483647 : Int32)) % (7 : Int32))), .val (.ref b98), .unset, .unset, .unset, .unset]) rfl k_) ?_
                  show own_Goes p e below (T103.setTop (mkF m 285 #[.val (.int x0), .val (.int x1), .val (.int x2), .val (.int x3), .val (.int x4), .val (.int x5), .val (.int z1), .val (.int z2), .val (.int (1 : Int32)), .val (.ref b4), .val (.ref b18), .val (.ref b36), .val (.ref b47), .val (.ref b58), .val (.ref b66), .val (.ref b74), .val (.ref b82), .val (.ref b90), .val (.ref b98), .val (.int ((x0 &&& (2147483647 : Int32)) % (7 : Int32))), .val (.ref b98), .unset, .unset, .unset, .unset] [])) _
                  refine own_go (fun t_ k_ => XS.iconst X103.here hx rfl (hb hby at_285) k_) ?_
                  show own_Goes p e below (T103.setTop (mkF m 286 #[.val (.int x0), .val (.int x1), .val (.int x2), .val (.int x3), .val (.int x4), .val (.int x5), .val (.int z1), .val (.int z2), .val (.int (1 : Int32)), .val (.ref b4), .val (.ref b18), .val (.ref b36), .val (.ref b47), .val (.ref b58), .val (.ref b66), .val (.ref b74), .val (.ref b82), .val (.ref b90), .val (.ref b98), .val (.int ((x0 &&& (2147483647 : Int32)) % (7 : Int32))), .val (.ref b98), .unset, .unset, .unset, .unset] [(.int (0 : Int32))])) _
                  refine own_go (fun t_ k_ => XS.istore X103.here hx rfl (hb hby at_286) rfl (l' := #[.val (.int x0), .val (.int x1), .val (.int x2), .val (.int x3), .val (.int x4), .val (.int x5), .val (.int z1), .val (.int z2), .val (.int (1 : Int32)), .val (.ref b4), .val (.ref b18), .val (.ref b36), .val (.ref b47), .val (.ref b58), .val (.ref b66), .val (.ref b74), .val (.ref b82), .val (.ref b90), .val (.ref b98), .val (.int ((x0 &&& (2147483647 : Int32)) % (7 : Int32))), .val (.ref b98), .val (.int (0 : Int32)), .unset, .unset, .unset]) rfl k_) ?_
                  show own_Goes p e below (T103.setTop (mkF m 288 #[.val (.int x0), .val (.int x1), .val (.int x2), .val (.int x3), .val (.int x4), .val (.int x5), .val (.int z1), .val (.int z2), .val (.int (1 : Int32)), .val (.ref b4), .val (.ref b18), .val (.ref b36), .val (.ref b47), .val (.ref b58), .val (.ref b66), .val (.ref b74), .val (.ref b82), .val (.ref b90), .val (.ref b98), .val (.int ((x0 &&& (2147483647 : Int32)) % (7 : Int32))), .val (.ref b98), .val (.int (0 : Int32)), .unset, .unset, .unset] [])) _
                  refine own_go (fun t_ k_ => XS.goto X103.here hx rfl (pc0 := 288) (pc' := 329) rfl (hb hby at_288) (by decide) (by decide) k_) ?_
                  show own_Goes p e below (T103.setTop (mkF m 329 #[.val (.int x0), .val (.int x1), .val (.int x2), .val (.int x3), .val (.int x4), .val (.int x5), .val (.int z1), .val (.int z2), .val (.int (1 : Int32)), .val (.ref b4), .val (.ref b18), .val (.ref b36), .val (.ref b47), .val (.ref b58), .val (.ref b66), .val (.ref b74), .val (.ref b82), .val (.ref b90), .val (.ref b98), .val (.int ((x0 &&& (2147483647 : Int32)) % (7 : Int32))), .val (.ref b98), .val (.int (0 : Int32)), .unset, .unset, .unset] [])) _
                  refine own_go (fun t_ k_ => XS.aload X103.here hx rfl (hb hby at_329) rfl rfl k_) ?_
                  show own_Goes p e below (T103.setTop (mkF m 331 #[.val (.int x0), .val (.int x1), .val (.int x2), .val (.int x3), .val (.int x4), .val (.int x5), .val (.int z1), .val (.int z2), .val (.int (1 : Int32)), .val (.ref b4), .val (.ref b18), .val (.ref b36), .val (.ref b47), .val (.ref b58), .val (.ref b66), .val (.ref b74), .val (.ref b82), .val (.ref b90), .val (.ref b98), .val (.int ((x0 &&& (2147483647 : Int32)) % (7 : Int32))), .val (.ref b98), .val (.int (0 : Int32)), .unset, .unset, .unset] [(.ref b74)])) _
                  refine own_go (fun t_ k_ => XS.aload X103.here hx rfl (hb hby at_331) rfl rfl k_) ?_
                  show own_Goes p e below (T103.setTop (mkF m 333 #[.val (.int x0), .val (.int x1), .val (.int x2), .val (.int x3), .val (.int x4), .val (.int x5), .val (.int z1), .val (.int z2), .val (.int (1 : Int32)), .val (.ref b4), .val (.ref b18), .val (.ref b36), .val (.ref b47), .val (.ref b58), .val (.ref b66), .val (.ref b74), .val (.ref b82), .val (.ref b90), .val (.ref b98), .val (.int ((x0 &&& (2147483647 : Int32)) % (7 : Int32))), .val (.ref b98), .val (.int (0 : Int32)), .unset, .unset, .unset] [(.ref b98), (.ref b74)])) _
                  have f146 := (A98.keep Kc103)
                  have f147 := (((((((A74.keep Kc79).ext E82).keep Kc87).ext E90).keep Kc95).ext E98).keep Kc103)
                  obtain ⟨cqiv148, kqiv148, qiv148a, qiv148b, qiv148c⟩ := isOf hZ103 e103 f147
                  obtain ⟨_, _, ⟨T149, L149, k149, n149⟩, -, X149, ⟨Lc149, hQ149, l149, y149, z149⟩, st149⟩ := X103.virtualBack hx (y := own_m12) (z := own_m12) hown103 (mvT hZ103 (hw _ (List.mem_of_getElem? (i := 80) rfl))) (mvT hZ103 (hw _ (List.mem_of_getElem? (i := 81) rfl))) (notFace_of_selects (args := #[]) (mvT hZ103 (hw _ (List.mem_of_getElem? (i := 83) rfl)))) (mvT hZ103 (hw _ (List.mem_of_getElem? (i := 83) rfl))) (mvT hZ103 (hw _ (List.mem_of_getElem? (i := 82) rfl))) (by decide) (backOf (W := 0) (own_eqO0 l Z a0 hw [] b74 b98 h103 n0 O104 f146) hZ103 (hw _ (List.mem_of_getElem? (i := 84) rfl)) (hw _ (List.mem_of_getElem? (i := 51) rfl)) (by decide) (by decide)) qiv148a qiv148c (g := (mkF m 333 #[.val (.int x0), .val (.int x1), .val (.int x2), .val (.int x3), .val (.int x4), .val (.int x5), .val (.int z1), .val (.int z2), .val (.int (1 : Int32)), .val (.ref b4), .val (.ref b18), .val (.ref b36), .val (.ref b47), .val (.ref b58), .val (.ref b66), .val (.ref b74), .val (.ref b82), .val (.ref b90), .val (.ref b98), .val (.int ((x0 &&& (2147483647 : Int32)) % (7 : Int32))), .val (.ref b98), .val (.int (0 : Int32)), .unset, .unset, .unset] [(.ref b98), (.ref b74)])) rfl (by rw [hml]; rfl) (Steps.refl _) (argsL := [(.ref b98)]) (rest := []) (lenOf own_pd_11 rfl) rfl (by show 2 * 0 + _ ≤ _; exact Nat.le_of_eq rfl) (hb hby at_333) (fun _ _ => ⟨rfl, e103, (by decide : 24 + 0 ≤ _), (by decide : 168 + 0 ≤ _)⟩)
                  dsimp only [Pt.U, Pt.locs, Pt.cells, Pt.slots] at X149 l149 y149 z149 st149 hQ149
                  subst l149 y149 z149
                  obtain ⟨Nc149, e149, rfl⟩ := hQ149
                  have N149 := Fr.app N103 Nc149
                  refine own_goS st149 ?_
                  show own_Goes p e below (T149.setTop (mkF m 336 #[.val (.int x0), .val (.int x1), .val (.int x2), .val (.int x3), .val (.int x4), .val (.int x5), .val (.int z1), .val (.int z2), .val (.int (1 : Int32)), .val (.ref b4), .val (.ref b18), .val (.ref b36), .val (.ref b47), .val (.ref b58), .val (.ref b66), .val (.ref b74), .val (.ref b82), .val (.ref b90), .val (.ref b98), .val (.int ((x0 &&& (2147483647 : Int32)) % (7 : Int32))), .val (.ref b98), .val (.int (0 : Int32)), .unset, .unset, .unset] [(.int (0 : Int32))])) _
                  refine own_go (fun t_ k_ => XS.istore X149.here hx rfl (hb hby at_336) rfl (l' := #[.val (.int x0), .val (.int x1), .val (.int x2), .val (.int x3), .val (.int x4), .val (.int x5), .val (.int z1), .val (.int z2), .val (.int (1 : Int32)), .val (.ref b4), .val (.ref b18), .val (.ref b36), .val (.ref b47), .val (.ref b58), .val (.ref b66), .val (.ref b74), .val (.ref b82), .val (.ref b90), .val (.ref b98), .val (.int ((x0 &&& (2147483647 : Int32)) % (7 : Int32))), .val (.ref b98), .val (.int (0 : Int32)), .val (.int (0 : Int32)), .unset, .unset]) rfl k_) ?_
                  show own_Goes p e below (T149.setTop (mkF m 338 #[.val (.int x0), .val (.int x1), .val (.int x2), .val (.int x3), .val (.int x4), .val (.int x5), .val (.int z1), .val (.int z2), .val (.int (1 : Int32)), .val (.ref b4), .val (.ref b18), .val (.ref b36), .val (.ref b47), .val (.ref b58), .val (.ref b66), .val (.ref b74), .val (.ref b82), .val (.ref b90), .val (.ref b98), .val (.int ((x0 &&& (2147483647 : Int32)) % (7 : Int32))), .val (.ref b98), .val (.int (0 : Int32)), .val (.int (0 : Int32)), .unset, .unset] [])) _
                  refine own_go (fun t_ k_ => XS.aload X149.here hx rfl (hb hby at_338) rfl rfl k_) ?_
                  show own_Goes p e below (T149.setTop (mkF m 340 #[.val (.int x0), .val (.int x1), .val (.int x2), .val (.int x3), .val (.int x4), .val (.int x5), .val (.int z1), .val (.int z2), .val (.int (1 : Int32)), .val (.ref b4), .val (.ref b18), .val (.ref b36), .val (.ref b47), .val (.ref b58), .val (.ref b66), .val (.ref b74), .val (.ref b82), .val (.ref b90), .val (.ref b98), .val (.int ((x0 &&& (2147483647 : Int32)) % (7 : Int32))), .val (.ref b98), .val (.int (0 : Int32)), .val (.int (0 : Int32)), .unset, .unset] [(.ref b82)])) _
                  refine own_go (fun t_ k_ => XS.aload X149.here hx rfl (hb hby at_340) rfl rfl k_) ?_
                  show own_Goes p e below (T149.setTop (mkF m 342 #[.val (.int x0), .val (.int x1), .val (.int x2), .val (.int x3), .val (.int x4), .val (.int x5), .val (.int z1), .val (.int z2), .val (.int (1 : Int32)), .val (.ref b4), .val (.ref b18), .val (.ref b36), .val (.ref b47), .val (.ref b58), .val (.ref b66), .val (.ref b74), .val (.ref b82), .val (.ref b90), .val (.ref b98), .val (.int ((x0 &&& (2147483647 : Int32)) % (7 : Int32))), .val (.ref b98), .val (.int (0 : Int32)), .val (.int (0 : Int32)), .unset, .unset] [(.ref b74), (.ref b82)])) _
                  have f150 := ((((c87_0.ext E90).keep Kc95 (ninS (own_ne (a := b82) (b := b90) (by omega)) nin0)).ext E98).keep Kc103 (ninS (own_ne (a := b82) (b := b98) (by omega)) nin0))
                  have f151 := ((((((c79_0.ext E82).keep Kc87 (ninS (own_ne (a := b74) (b := b82) (by omega)) nin0)).ext E90).keep Kc95 (ninS (own_ne (a := b74) (b := b90) (by omega)) nin0)).ext E98).keep Kc103 (ninS (own_ne (a := b74) (b := b98) (by omega)) nin0))
                  have f152 := (((((A82.keep Kc87).ext E90).keep Kc95).ext E98).keep Kc103)
                  obtain ⟨cqiv153, kqiv153, qiv153a, qiv153b, qiv153c⟩ := isOf hZ103 e149 f152
                  obtain ⟨_, _, ⟨T154, L154, k154, n154⟩, -, X154, ⟨Lc154, hQ154, l154, y154, z154⟩, st154⟩ := X149.virtualBack hx (y := own_m12) (z := own_m12) hown103 (mvT hZ103 (hw _ (List.mem_of_getElem? (i := 80) rfl))) (mvT hZ103 (hw _ (List.mem_of_getElem? (i := 81) rfl))) (notFace_of_selects (args := #[]) (mvT hZ103 (hw _ (List.mem_of_getElem? (i := 83) rfl)))) (mvT hZ103 (hw _ (List.mem_of_getElem? (i := 83) rfl))) (mvT hZ103 (hw _ (List.mem_of_getElem? (i := 82) rfl))) (by decide) (backOf (W := 0) (own_eqT l Z a0 hw [] b82 b74 b58 h103 n0 O104 f147 f150 f151) hZ103 (hw _ (List.mem_of_getElem? (i := 84) rfl)) (hw _ (List.mem_of_getElem? (i := 51) rfl)) (by decide) (by decide)) qiv153a qiv153c (g := (mkF m 342 #[.val (.int x0), .val (.int x1), .val (.int x2), .val (.int x3), .val (.int x4), .val (.int x5), .val (.int z1), .val (.int z2), .val (.int (1 : Int32)), .val (.ref b4), .val (.ref b18), .val (.ref b36), .val (.ref b47), .val (.ref b58), .val (.ref b66), .val (.ref b74), .val (.ref b82), .val (.ref b90), .val (.ref b98), .val (.int ((x0 &&& (2147483647 : Int32)) % (7 : Int32))), .val (.ref b98), .val (.int (0 : Int32)), .val (.int (0 : Int32)), .unset, .unset] [(.ref b74), (.ref b82)])) rfl (by rw [hml]; rfl) (Steps.refl _) (argsL := [(.ref b74)]) (rest := []) (lenOf own_pd_11 rfl) rfl (by show 2 * 0 + _ ≤ _; exact Nat.le_of_eq rfl) (hb hby at_342) (fun _ _ => ⟨rfl, e149, (by decide : 24 + 0 ≤ _), (by decide : 168 + 0 ≤ _)⟩)
                  dsimp only [Pt.U, Pt.locs, Pt.cells, Pt.slots] at X154 l154 y154 z154 st154 hQ154
                  subst l154 y154 z154
                  obtain ⟨Nc154, e154, rfl⟩ := hQ154
                  have N154 := Fr.app N149 Nc154
                  refine own_goS st154 ?_
                  show own_Goes p e below (T154.setTop (mkF m 345 #[.val (.int x0), .val (.int x1), .val (.int x2), .val (.int x3), .val (.int x4), .val (.int x5), .val (.int z1), .val (.int z2), .val (.int (1 : Int32)), .val (.ref b4), .val (.ref b18), .val (.ref b36), .val (.ref b47), .val (.ref b58), .val (.ref b66), .val (.ref b74), .val (.ref b82), .val (.ref b90), .val (.ref b98), .val (.int ((x0 &&& (2147483647 : Int32)) % (7 : Int32))), .val (.ref b98), .val (.int (0 : Int32)), .val (.int (0 : Int32)), .unset, .unset] [(.int (1 : Int32))])) _
                  refine own_go (fun t_ k_ => XS.istore X154.here hx rfl (hb hby at_345) rfl (l' := #[.val (.int x0), .val (.int x1), .val (.int x2), .val (.int x3), .val (.int x4), .val (.int x5), .val (.int z1), .val (.int z2), .val (.int (1 : Int32)), .val (.ref b4), .val (.ref b18), .val (.ref b36), .val (.ref b47), .val (.ref b58), .val (.ref b66), .val (.ref b74), .val (.ref b82), .val (.ref b90), .val (.ref b98), .val (.int ((x0 &&& (2147483647 : Int32)) % (7 : Int32))), .val (.ref b98), .val (.int (0 : Int32)), .val (.int (0 : Int32)), .val (.int (1 : Int32)), .unset]) rfl k_) ?_
                  show own_Goes p e below (T154.setTop (mkF m 347 #[.val (.int x0), .val (.int x1), .val (.int x2), .val (.int x3), .val (.int x4), .val (.int x5), .val (.int z1), .val (.int z2), .val (.int (1 : Int32)), .val (.ref b4), .val (.ref b18), .val (.ref b36), .val (.ref b47), .val (.ref b58), .val (.ref b66), .val (.ref b74), .val (.ref b82), .val (.ref b90), .val (.ref b98), .val (.int ((x0 &&& (2147483647 : Int32)) % (7 : Int32))), .val (.ref b98), .val (.int (0 : Int32)), .val (.int (0 : Int32)), .val (.int (1 : Int32)), .unset] [])) _
                  refine own_go (fun t_ k_ => XS.aload X154.here hx rfl (hb hby at_347) rfl rfl k_) ?_
                  show own_Goes p e below (T154.setTop (mkF m 349 #[.val (.int x0), .val (.int x1), .val (.int x2), .val (.int x3), .val (.int x4), .val (.int x5), .val (.int z1), .val (.int z2), .val (.int (1 : Int32)), .val (.ref b4), .val (.ref b18), .val (.ref b36), .val (.ref b47), .val (.ref b58), .val (.ref b66), .val (.ref b74), .val (.ref b82), .val (.ref b90), .val (.ref b98), .val (.int ((x0 &&& (2147483647 : Int32)) % (7 : Int32))), .val (.ref b98), .val (.int (0 : Int32)), .val (.int (0 : Int32)), .val (.int (1 : Int32)), .unset] [(.ref b90)])) _
                  refine own_go (fun t_ k_ => XS.aload X154.here hx rfl (hb hby at_349) rfl rfl k_) ?_
                  show own_Goes p e below (T154.setTop (mkF m 351 #[.val (.int x0), .val (.int x1), .val (.int x2), .val (.int x3), .val (.int x4), .val (.int x5), .val (.int z1), .val (.int z2), .val (.int (1 : Int32)), .val (.ref b4), .val (.ref b18), .val (.ref b36), .val (.ref b47), .val (.ref b58), .val (.ref b66), .val (.ref b74), .val (.ref b82), .val (.ref b90), .val (.ref b98), .val (.int ((x0 &&& (2147483647 : Int32)) % (7 : Int32))), .val (.ref b98), .val (.int (0 : Int32)), .val (.int (0 : Int32)), .val (.int (1 : Int32)), .unset] [(.ref b74), (.ref b90)])) _
                  have f155 := ((c95_0.ext E98).keep Kc103 (ninS (own_ne (a := b90) (b := b98) (by omega)) nin0))
                  have f156 := (((A90.keep Kc95).ext E98).keep Kc103)
                  obtain ⟨cqiv157, kqiv157, qiv157a, qiv157b, qiv157c⟩ := isOf hZ103 e154 f156
                  obtain ⟨_, _, ⟨T158, L158, k158, n158⟩, -, X158, ⟨Lc158, hQ158, l158, y158, z158⟩, st158⟩ := X154.virtualBack hx (y := own_m12) (z := own_m12) hown103 (mvT hZ103 (hw _ (List.mem_of_getElem? (i := 80) rfl))) (mvT hZ103 (hw _ (List.mem_of_getElem? (i := 81) rfl))) (notFace_of_selects (args := #[]) (mvT hZ103 (hw _ (List.mem_of_getElem? (i := 83) rfl)))) (mvT hZ103 (hw _ (List.mem_of_getElem? (i := 83) rfl))) (mvT hZ103 (hw _ (List.mem_of_getElem? (i := 82) rfl))) (by decide) (backOf (W := 0) (own_eqF l Z a0 hw [] b90 b74 b66 b58 h103 n0 O104 f147 f155 f151 (show ¬ b58 = b66 from (by omega))) hZ103 (hw _ (List.mem_of_getElem? (i := 84) rfl)) (hw _ (List.mem_of_getElem? (i := 51) rfl)) (by decide) (by decide)) qiv157a qiv157c (g := (mkF m 351 #[.val (.int x0), .val (.int x1), .val (.int x2), .val (.int x3), .val (.int x4), .val (.int x5), .val (.int z1), .val (.int z2), .val (.int (1 : Int32)), .val (.ref b4), .val (.ref b18), .val (.ref b36), .val (.ref b47), .val (.ref b58), .val (.ref b66), .val (.ref b74), .val (.ref b82), .val (.ref b90), .val (.ref b98), .val (.int ((x0 &&& (2147483647 : Int32)) % (7 : Int32))), .val (.ref b98), .val (.int (0 : Int32)), .val (.int (0 : Int32)), .val (.int (1 : Int32)), .unset] [(.ref b74), (.ref b90)])) rfl (by rw [hml]; rfl) (Steps.refl _) (argsL := [(.ref b74)]) (rest := []) (lenOf own_pd_11 rfl) rfl (by show 2 * 0 + _ ≤ _; exact Nat.le_of_eq rfl) (hb hby at_351) (fun _ _ => ⟨rfl, e154, (by decide : 24 + 0 ≤ _), (by decide : 168 + 0 ≤ _)⟩)
                  dsimp only [Pt.U, Pt.locs, Pt.cells, Pt.slots] at X158 l158 y158 z158 st158 hQ158
                  subst l158 y158 z158
                  obtain ⟨Nc158, e158, rfl⟩ := hQ158
                  have N158 := Fr.app N154 Nc158
                  refine own_goS st158 ?_
                  show own_Goes p e below (T158.setTop (mkF m 354 #[.val (.int x0), .val (.int x1), .val (.int x2), .val (.int x3), .val (.int x4), .val (.int x5), .val (.int z1), .val (.int z2), .val (.int (1 : Int32)), .val (.ref b4), .val (.ref b18), .val (.ref b36), .val (.ref b47), .val (.ref b58), .val (.ref b66), .val (.ref b74), .val (.ref b82), .val (.ref b90), .val (.ref b98), .val (.int ((x0 &&& (2147483647 : Int32)) % (7 : Int32))), .val (.ref b98), .val (.int (0 : Int32)), .val (.int (0 : Int32)), .val (.int (1 : Int32)), .unset] [(.int (0 : Int32))])) _
                  refine own_go (fun t_ k_ => XS.istore X158.here hx rfl (hb hby at_354) rfl (l' := #[.val (.int x0), .val (.int x1), .val (.int x2), .val (.int x3), .val (.int x4), .val (.int x5), .val (.int z1), .val (.int z2), .val (.int (1 : Int32)), .val (.ref b4), .val (.ref b18), .val (.ref b36), .val (.ref b47), .val (.ref b58), .val (.ref b66), .val (.ref b74), .val (.ref b82), .val (.ref b90), .val (.ref b98), .val (.int ((x0 &&& (2147483647 : Int32)) % (7 : Int32))), .val (.ref b98), .val (.int (0 : Int32)), .val (.int (0 : Int32)), .val (.int (1 : Int32)), .val (.int (0 : Int32))]) rfl k_) ?_
                  show own_Goes p e below (T158.setTop (mkF m 356 #[.val (.int x0), .val (.int x1), .val (.int x2), .val (.int x3), .val (.int x4), .val (.int x5), .val (.int z1), .val (.int z2), .val (.int (1 : Int32)), .val (.ref b4), .val (.ref b18), .val (.ref b36), .val (.ref b47), .val (.ref b58), .val (.ref b66), .val (.ref b74), .val (.ref b82), .val (.ref b90), .val (.ref b98), .val (.int ((x0 &&& (2147483647 : Int32)) % (7 : Int32))), .val (.ref b98), .val (.int (0 : Int32)), .val (.int (0 : Int32)), .val (.int (1 : Int32)), .val (.int (0 : Int32))] [])) _
                  refine own_go (fun t_ k_ => XS.iload X158.here hx rfl (hb hby at_356) rfl k_) ?_
                  show own_Goes p e below (T158.setTop (mkF m 358 #[.val (.int x0), .val (.int x1), .val (.int x2), .val (.int x3), .val (.int x4), .val (.int x5), .val (.int z1), .val (.int z2), .val (.int (1 : Int32)), .val (.ref b4), .val (.ref b18), .val (.ref b36), .val (.ref b47), .val (.ref b58), .val (.ref b66), .val (.ref b74), .val (.ref b82), .val (.ref b90), .val (.ref b98), .val (.int ((x0 &&& (2147483647 : Int32)) % (7 : Int32))), .val (.ref b98), .val (.int (0 : Int32)), .val (.int (0 : Int32)), .val (.int (1 : Int32)), .val (.int (0 : Int32))] [(.int (0 : Int32))])) _
                  refine own_go (fun t_ k_ => XS.iload X158.here hx rfl (hb hby at_358) rfl k_) ?_
                  show own_Goes p e below (T158.setTop (mkF m 360 #[.val (.int x0), .val (.int x1), .val (.int x2), .val (.int x3), .val (.int x4), .val (.int x5), .val (.int z1), .val (.int z2), .val (.int (1 : Int32)), .val (.ref b4), .val (.ref b18), .val (.ref b36), .val (.ref b47), .val (.ref b58), .val (.ref b66), .val (.ref b74), .val (.ref b82), .val (.ref b90), .val (.ref b98), .val (.int ((x0 &&& (2147483647 : Int32)) % (7 : Int32))), .val (.ref b98), .val (.int (0 : Int32)), .val (.int (0 : Int32)), .val (.int (1 : Int32)), .val (.int (0 : Int32))] [(.int (0 : Int32)), (.int (0 : Int32))])) _
                  refine own_go (fun t_ k_ => XS.icmpNo X158.here hx rfl (hb hby at_360) rfl (teq (show ((0 : Int32) = (0 : Int32)) from by decide)).2 k_) ?_
                  show own_Goes p e below (T158.setTop (mkF m 363 #[.val (.int x0), .val (.int x1), .val (.int x2), .val (.int x3), .val (.int x4), .val (.int x5), .val (.int z1), .val (.int z2), .val (.int (1 : Int32)), .val (.ref b4), .val (.ref b18), .val (.ref b36), .val (.ref b47), .val (.ref b58), .val (.ref b66), .val (.ref b74), .val (.ref b82), .val (.ref b90), .val (.ref b98), .val (.int ((x0 &&& (2147483647 : Int32)) % (7 : Int32))), .val (.ref b98), .val (.int (0 : Int32)), .val (.int (0 : Int32)), .val (.int (1 : Int32)), .val (.int (0 : Int32))] [])) _
                  refine own_go (fun t_ k_ => XS.iload X158.here hx rfl (hb hby at_363) rfl k_) ?_
                  show own_Goes p e below (T158.setTop (mkF m 365 #[.val (.int x0), .val (.int x1), .val (.int x2), .val (.int x3), .val (.int x4), .val (.int x5), .val (.int z1), .val (.int z2), .val (.int (1 : Int32)), .val (.ref b4), .val (.ref b18), .val (.ref b36), .val (.ref b47), .val (.ref b58), .val (.ref b66), .val (.ref b74), .val (.ref b82), .val (.ref b90), .val (.ref b98), .val (.int ((x0 &&& (2147483647 : Int32)) % (7 : Int32))), .val (.ref b98), .val (.int (0 : Int32)), .val (.int (0 : Int32)), .val (.int (1 : Int32)), .val (.int (0 : Int32))] [(.int (1 : Int32))])) _
                  refine own_go (fun t_ k_ => XS.ifNo X158.here hx rfl (hb hby at_365) rfl ((if0 _ _).trans (feq (show ¬ ((1 : Int32) = (0 : Int32)) from by decide)).1) k_) ?_
                  show own_Goes p e below (T158.setTop (mkF m 368 #[.val (.int x0), .val (.int x1), .val (.int x2), .val (.int x3), .val (.int x4), .val (.int x5), .val (.int z1), .val (.int z2), .val (.int (1 : Int32)), .val (.ref b4), .val (.ref b18), .val (.ref b36), .val (.ref b47), .val (.ref b58), .val (.ref b66), .val (.ref b74), .val (.ref b82), .val (.ref b90), .val (.ref b98), .val (.int ((x0 &&& (2147483647 : Int32)) % (7 : Int32))), .val (.ref b98), .val (.int (0 : Int32)), .val (.int (0 : Int32)), .val (.int (1 : Int32)), .val (.int (0 : Int32))] [])) _
                  refine own_go (fun t_ k_ => XS.iload X158.here hx rfl (hb hby at_368) rfl k_) ?_
                  show own_Goes p e below (T158.setTop (mkF m 370 #[.val (.int x0), .val (.int x1), .val (.int x2), .val (.int x3), .val (.int x4), .val (.int x5), .val (.int z1), .val (.int z2), .val (.int (1 : Int32)), .val (.ref b4), .val (.ref b18), .val (.ref b36), .val (.ref b47), .val (.ref b58), .val (.ref b66), .val (.ref b74), .val (.ref b82), .val (.ref b90), .val (.ref b98), .val (.int ((x0 &&& (2147483647 : Int32)) % (7 : Int32))), .val (.ref b98), .val (.int (0 : Int32)), .val (.int (0 : Int32)), .val (.int (1 : Int32)), .val (.int (0 : Int32))] [(.int (0 : Int32))])) _
                  refine own_go (fun t_ k_ => XS.ifNo X158.here hx rfl (hb hby at_370) rfl ((if0 _ _).trans (teq (show ((0 : Int32) = (0 : Int32)) from by decide)).2) k_) ?_
                  show own_Goes p e below (T158.setTop (mkF m 373 #[.val (.int x0), .val (.int x1), .val (.int x2), .val (.int x3), .val (.int x4), .val (.int x5), .val (.int z1), .val (.int z2), .val (.int (1 : Int32)), .val (.ref b4), .val (.ref b18), .val (.ref b36), .val (.ref b47), .val (.ref b58), .val (.ref b66), .val (.ref b74), .val (.ref b82), .val (.ref b90), .val (.ref b98), .val (.int ((x0 &&& (2147483647 : Int32)) % (7 : Int32))), .val (.ref b98), .val (.int (0 : Int32)), .val (.int (0 : Int32)), .val (.int (1 : Int32)), .val (.int (0 : Int32))] [])) _
                  refine own_go (fun t_ k_ => XS.iconst X158.here hx rfl (hb hby at_373) k_) ?_
                  show own_Goes p e below (T158.setTop (mkF m 374 #[.val (.int x0), .val (.int x1), .val (.int x2), .val (.int x3), .val (.int x4), .val (.int x5), .val (.int z1), .val (.int z2), .val (.int (1 : Int32)), .val (.ref b4), .val (.ref b18), .val (.ref b36), .val (.ref b47), .val (.ref b58), .val (.ref b66), .val (.ref b74), .val (.ref b82), .val (.ref b90), .val (.ref b98), .val (.int ((x0 &&& (2147483647 : Int32)) % (7 : Int32))), .val (.ref b98), .val (.int (0 : Int32)), .val (.int (0 : Int32)), .val (.int (1 : Int32)), .val (.int (0 : Int32))] [(.int (1 : Int32))])) _
                  refine own_go (fun t_ k_ => XS.goto X158.here hx rfl (pc0 := 374) (pc' := 378) rfl (hb hby at_374) (by decide) (by decide) k_) ?_
                  show own_Goes p e below (T158.setTop (mkF m 378 #[.val (.int x0), .val (.int x1), .val (.int x2), .val (.int x3), .val (.int x4), .val (.int x5), .val (.int z1), .val (.int z2), .val (.int (1 : Int32)), .val (.ref b4), .val (.ref b18), .val (.ref b36), .val (.ref b47), .val (.ref b58), .val (.ref b66), .val (.ref b74), .val (.ref b82), .val (.ref b90), .val (.ref b98), .val (.int ((x0 &&& (2147483647 : Int32)) % (7 : Int32))), .val (.ref b98), .val (.int (0 : Int32)), .val (.int (0 : Int32)), .val (.int (1 : Int32)), .val (.int (0 : Int32))] [(.int (1 : Int32))])) _
                  refine own_endW X158 hS103 (show _ ≤ T158.heap.size by rw [e158]; exact hk103) (v := (some (.int (1 : Int32)))) (fun h => by rw [hret] at h; cases h) hlk (by decide) (by decide) ?_ (fun fs hr => retOut X158 hx hret rfl (Or.inl ⟨rfl, Or.inr (Or.inl rfl), _, rfl⟩) (hb hby at_378) hr)
                  show Q_rm0 Z x0 x1 x2 x3 x4 x5 gz h0 n0 _ T158.heap _
                  rw [e158]
                  exact ⟨N158, trivial, rfl⟩
                · refine own_go (fun t_ k_ => XS.icmpYes X103.here hx rfl (pc0 := 278) (pc' := 291) rfl (hb hby at_278) rfl (feq hc145).2 (by decide) (by decide) k_) ?_
                  show own_Goes p e below (T103.setTop (mkF m 291 #[.val (.int x0), .val (.int x1), .val (.int x2), .val (.int x3), .val (.int x4), .val (.int x5), .val (.int z1), .val (.int z2), .val (.int (1 : Int32)), .val (.ref b4), .val (.ref b18), .val (.ref b36), .val (.ref b47), .val (.ref b58), .val (.ref b66), .val (.ref b74), .val (.ref b82), .val (.ref b90), .val (.ref b98), .val (.int ((x0 &&& (2147483647 : Int32)) % (7 : Int32))), .unset, .unset, .unset, .unset, .unset] [])) _
                  refine own_go (fun t_ k_ => XS.iload X103.here hx rfl (hb hby at_291) rfl k_) ?_
                  show own_Goes p e below (T103.setTop (mkF m 293 #[.val (.int x0), .val (.int x1), .val (.int x2), .val (.int x3), .val (.int x4), .val (.int x5), .val (.int z1), .val (.int z2), .val (.int (1 : Int32)), .val (.ref b4), .val (.ref b18), .val (.ref b36), .val (.ref b47), .val (.ref b58), .val (.ref b66), .val (.ref b74), .val (.ref b82), .val (.ref b90), .val (.ref b98), .val (.int ((x0 &&& (2147483647 : Int32)) % (7 : Int32))), .unset, .unset, .unset, .unset, .unset] [(.int ((x0 &&& (2147483647 : Int32)) % (7 : Int32)))])) _
                  refine own_go (fun t_ k_ => XS.iconst X103.here hx rfl (hb hby at_293) k_) ?_
                  show own_Goes p e below (T103.setTop (mkF m 294 #[.val (.int x0), .val (.int x1), .val (.int x2), .val (.int x3), .val (.int x4), .val (.int x5), .val (.int z1), .val (.int z2), .val (.int (1 : Int32)), .val (.ref b4), .val (.ref b18), .val (.ref b36), .val (.ref b47), .val (.ref b58), .val (.ref b66), .val (.ref b74), .val (.ref b82), .val (.ref b90), .val (.ref b98), .val (.int ((x0 &&& (2147483647 : Int32)) % (7 : Int32))), .unset, .unset, .unset, .unset, .unset] [(.int (4 : Int32)), (.int ((x0 &&& (2147483647 : Int32)) % (7 : Int32)))])) _
                  by_cases hc159 : ((x0 &&& (2147483647 : Int32)) % (7 : Int32)) = (4 : Int32)
                  · refine own_go (fun t_ k_ => XS.icmpNo X103.here hx rfl (hb hby at_294) rfl (teq hc159).2 k_) ?_
                    show own_Goes p e below (T103.setTop (mkF m 297 #[.val (.int x0), .val (.int x1), .val (.int x2), .val (.int x3), .val (.int x4), .val (.int x5), .val (.int z1), .val (.int z2), .val (.int (1 : Int32)), .val (.ref b4), .val (.ref b18), .val (.ref b36), .val (.ref b47), .val (.ref b58), .val (.ref b66), .val (.ref b74), .val (.ref b82), .val (.ref b90), .val (.ref b98), .val (.int ((x0 &&& (2147483647 : Int32)) % (7 : Int32))), .unset, .unset, .unset, .unset, .unset] [])) _
                    refine own_go (fun t_ k_ => XS.aconstNull X103.here hx rfl (hb hby at_297) k_) ?_
                    show own_Goes p e below (T103.setTop (mkF m 298 #[.val (.int x0), .val (.int x1), .val (.int x2), .val (.int x3), .val (.int x4), .val (.int x5), .val (.int z1), .val (.int z2), .val (.int (1 : Int32)), .val (.ref b4), .val (.ref b18), .val (.ref b36), .val (.ref b47), .val (.ref b58), .val (.ref b66), .val (.ref b74), .val (.ref b82), .val (.ref b90), .val (.ref b98), .val (.int ((x0 &&& (2147483647 : Int32)) % (7 : Int32))), .unset, .unset, .unset, .unset, .unset] [.null])) _
                    refine own_go (fun t_ k_ => XS.astore X103.here hx rfl (hb hby at_298) rfl rfl (l' := #[.val (.int x0), .val (.int x1), .val (.int x2), .val (.int x3), .val (.int x4), .val (.int x5), .val (.int z1), .val (.int z2), .val (.int (1 : Int32)), .val (.ref b4), .val (.ref b18), .val (.ref b36), .val (.ref b47), .val (.ref b58), .val (.ref b66), .val (.ref b74), .val (.ref b82), .val (.ref b90), .val (.ref b98), .val (.int ((x0 &&& (2147483647 : Int32)) % (7 : Int32))), .val .null, .unset, .unset, .unset, .unset]) rfl k_) ?_
                    show own_Goes p e below (T103.setTop (mkF m 300 #[.val (.int x0), .val (.int x1), .val (.int x2), .val (.int x3), .val (.int x4), .val (.int x5), .val (.int z1), .val (.int z2), .val (.int (1 : Int32)), .val (.ref b4), .val (.ref b18), .val (.ref b36), .val (.ref b47), .val (.ref b58), .val (.ref b66), .val (.ref b74), .val (.ref b82), .val (.ref b90), .val (.ref b98), .val (.int ((x0 &&& (2147483647 : Int32)) % (7 : Int32))), .val .null, .unset, .unset, .unset, .unset] [])) _
                    refine own_go (fun t_ k_ => XS.iconst X103.here hx rfl (hb hby at_300) k_) ?_
                    show own_Goes p e below (T103.setTop (mkF m 301 #[.val (.int x0), .val (.int x1), .val (.int x2), .val (.int x3), .val (.int x4), .val (.int x5), .val (.int z1), .val (.int z2), .val (.int (1 : Int32)), .val (.ref b4), .val (.ref b18), .val (.ref b36), .val (.ref b47), .val (.ref b58), .val (.ref b66), .val (.ref b74), .val (.ref b82), .val (.ref b90), .val (.ref b98), .val (.int ((x0 &&& (2147483647 : Int32)) % (7 : Int32))), .val .null, .unset, .unset, .unset, .unset] [(.int (0 : Int32))])) _
                    refine own_go (fun t_ k_ => XS.istore X103.here hx rfl (hb hby at_301) rfl (l' := #[.val (.int x0), .val (.int x1), .val (.int x2), .val (.int x3), .val (.int x4), .val (.int x5), .val (.int z1), .val (.int z2), .val (.int (1 : Int32)), .val (.ref b4), .val (.ref b18), .val (.ref b36), .val (.ref b47), .val (.ref b58), .val (.ref b66), .val (.ref b74), .val (.ref b82), .val (.ref b90), .val (.ref b98), .val (.int ((x0 &&& (2147483647 : Int32)) % (7 : Int32))), .val .null, .val (.int (0 : Int32)), .unset, .unset, .unset]) rfl k_) ?_
                    show own_Goes p e below (T103.setTop (mkF m 303 #[.val (.int x0), .val (.int x1), .val (.int x2), .val (.int x3), .val (.int x4), .val (.int x5), .val (.int z1), .val (.int z2), .val (.int (1 : Int32)), .val (.ref b4), .val (.ref b18), .val (.ref b36), .val (.ref b47), .val (.ref b58), .val (.ref b66), .val (.ref b74), .val (.ref b82), .val (.ref b90), .val (.ref b98), .val (.int ((x0 &&& (2147483647 : Int32)) % (7 : Int32))), .val .null, .val (.int (0 : Int32)), .unset, .unset, .unset] [])) _
                    refine own_go (fun t_ k_ => XS.goto X103.here hx rfl (pc0 := 303) (pc' := 329) rfl (hb hby at_303) (by decide) (by decide) k_) ?_
                    show own_Goes p e below (T103.setTop (mkF m 329 #[.val (.int x0), .val (.int x1), .val (.int x2), .val (.int x3), .val (.int x4), .val (.int x5), .val (.int z1), .val (.int z2), .val (.int (1 : Int32)), .val (.ref b4), .val (.ref b18), .val (.ref b36), .val (.ref b47), .val (.ref b58), .val (.ref b66), .val (.ref b74), .val (.ref b82), .val (.ref b90), .val (.ref b98), .val (.int ((x0 &&& (2147483647 : Int32)) % (7 : Int32))), .val .null, .val (.int (0 : Int32)), .unset, .unset, .unset] [])) _
                    refine own_go (fun t_ k_ => XS.aload X103.here hx rfl (hb hby at_329) rfl rfl k_) ?_
                    show own_Goes p e below (T103.setTop (mkF m 331 #[.val (.int x0), .val (.int x1), .val (.int x2), .val (.int x3), .val (.int x4), .val (.int x5), .val (.int z1), .val (.int z2), .val (.int (1 : Int32)), .val (.ref b4), .val (.ref b18), .val (.ref b36), .val (.ref b47), .val (.ref b58), .val (.ref b66), .val (.ref b74), .val (.ref b82), .val (.ref b90), .val (.ref b98), .val (.int ((x0 &&& (2147483647 : Int32)) % (7 : Int32))), .val .null, .val (.int (0 : Int32)), .unset, .unset, .unset] [(.ref b74)])) _
                    refine own_go (fun t_ k_ => XS.aload X103.here hx rfl (hb hby at_331) rfl rfl k_) ?_
                    show own_Goes p e below (T103.setTop (mkF m 333 #[.val (.int x0), .val (.int x1), .val (.int x2), .val (.int x3), .val (.int x4), .val (.int x5), .val (.int z1), .val (.int z2), .val (.int (1 : Int32)), .val (.ref b4), .val (.ref b18), .val (.ref b36), .val (.ref b47), .val (.ref b58), .val (.ref b66), .val (.ref b74), .val (.ref b82), .val (.ref b90), .val (.ref b98), .val (.int ((x0 &&& (2147483647 : Int32)) % (7 : Int32))), .val .null, .val (.int (0 : Int32)), .unset, .unset, .unset] [.null, (.ref b74)])) _
                    have f160 := (((((((A74.keep Kc79).ext E82).keep Kc87).ext E90).keep Kc95).ext E98).keep Kc103)
                    obtain ⟨cqiv161, kqiv161, qiv161a, qiv161b, qiv161c⟩ := isOf hZ103 e103 f160
                    obtain ⟨_, _, ⟨T162, L162, k162, n162⟩, -, X162, ⟨Lc162, hQ162, l162, y162, z162⟩, st162⟩ := X103.virtualBack hx (y := own_m12) (z := own_m12) hown103 (mvT hZ103 (hw _ (List.mem_of_getElem? (i := 80) rfl))) (mvT hZ103 (hw _ (List.mem_of_getElem? (i := 81) rfl))) (notFace_of_selects (args := #[]) (mvT hZ103 (hw _ (List.mem_of_getElem? (i := 83) rfl)))) (mvT hZ103 (hw _ (List.mem_of_getElem? (i := 83) rfl))) (mvT hZ103 (hw _ (List.mem_of_getElem? (i := 82) rfl))) (by decide) (backOf (W := 0) (own_eqN l Z a0 hw [] b74 h103 n0 O104) hZ103 (hw _ (List.mem_of_getElem? (i := 84) rfl)) (hw _ (List.mem_of_getElem? (i := 51) rfl)) (by decide) (by decide)) qiv161a qiv161c (g := (mkF m 333 #[.val (.int x0), .val (.int x1), .val (.int x2), .val (.int x3), .val (.int x4), .val (.int x5), .val (.int z1), .val (.int z2), .val (.int (1 : Int32)), .val (.ref b4), .val (.ref b18), .val (.ref b36), .val (.ref b47), .val (.ref b58), .val (.ref b66), .val (.ref b74), .val (.ref b82), .val (.ref b90), .val (.ref b98), .val (.int ((x0 &&& (2147483647 : Int32)) % (7 : Int32))), .val .null, .val (.int (0 : Int32)), .unset, .unset, .unset] [.null, (.ref b74)])) rfl (by rw [hml]; rfl) (Steps.refl _) (argsL := [.null]) (rest := []) (lenOf own_pd_11 rfl) rfl (by show 2 * 0 + _ ≤ _; exact Nat.le_of_eq rfl) (hb hby at_333) (fun _ _ => ⟨rfl, e103, (by decide : 24 + 0 ≤ _), (by decide : 168 + 0 ≤ _)⟩)
                    dsimp only [Pt.U, Pt.locs, Pt.cells, Pt.slots] at X162 l162 y162 z162 st162 hQ162
                    subst l162 y162 z162
                    obtain ⟨Nc162, e162, rfl⟩ := hQ162
                    have N162 := Fr.app N103 Nc162
                    refine own_goS st162 ?_
                    show own_Goes p e below (T162.setTop (mkF m 336 #[.val (.int x0), .val (.int x1), .val (.int x2), .val (.int x3), .val (.int x4), .val (.int x5), .val (.int z1), .val (.int z2), .val (.int (1 : Int32)), .val (.ref b4), .val (.ref b18), .val (.ref b36), .val (.ref b47), .val (.ref b58), .val (.ref b66), .val (.ref b74), .val (.ref b82), .val (.ref b90), .val (.ref b98), .val (.int ((x0 &&& (2147483647 : Int32)) % (7 : Int32))), .val .null, .val (.int (0 : Int32)), .unset, .unset, .unset] [(.int (0 : Int32))])) _
                    refine own_go (fun t_ k_ => XS.istore X162.here hx rfl (hb hby at_336) rfl (l' := #[.val (.int x0), .val (.int x1), .val (.int x2), .val (.int x3), .val (.int x4), .val (.int x5), .val (.int z1), .val (.int z2), .val (.int (1 : Int32)), .val (.ref b4), .val (.ref b18), .val (.ref b36), .val (.ref b47), .val (.ref b58), .val (.ref b66), .val (.ref b74), .val (.ref b82), .val (.ref b90), .val (.ref b98), .val (.int ((x0 &&& (2147483647 : Int32)) % (7 : Int32))), .val .null, .val (.int (0 : Int32)), .val (.int (0 : Int32)), .unset, .unset]) rfl k_) ?_
                    show own_Goes p e below (T162.setTop (mkF m 338 #[.val (.int x0), .val (.int x1), .val (.int x2), .val (.int x3), .val (.int x4), .val (.int x5), .val (.int z1), .val (.int z2), .val (.int (1 : Int32)), .val (.ref b4), .val (.ref b18), .val (.ref b36), .val (.ref b47), .val (.ref b58), .val (.ref b66), .val (.ref b74), .val (.ref b82), .val (.ref b90), .val (.ref b98), .val (.int ((x0 &&& (2147483647 : Int32)) % (7 : Int32))), .val .null, .val (.int (0 : Int32)), .val (.int (0 : Int32)), .unset, .unset] [])) _
                    refine own_go (fun t_ k_ => XS.aload X162.here hx rfl (hb hby at_338) rfl rfl k_) ?_
                    show own_Goes p e below (T162.setTop (mkF m 340 #[.val (.int x0), .val (.int x1), .val (.int x2), .val (.int x3), .val (.int x4), .val (.int x5), .val (.int z1), .val (.int z2), .val (.int (1 : Int32)), .val (.ref b4), .val (.ref b18), .val (.ref b36), .val (.ref b47), .val (.ref b58), .val (.ref b66), .val (.ref b74), .val (.ref b82), .val (.ref b90), .val (.ref b98), .val (.int ((x0 &&& (2147483647 : Int32)) % (7 : Int32))), .val .null, .val (.int (0 : Int32)), .val (.int (0 : Int32)), .unset, .unset] [(.ref b82)])) _
                    refine own_go (fun t_ k_ => XS.aload X162.here hx rfl (hb hby at_340) rfl rfl k_) ?_
                    show own_Goes p e below (T162.setTop (mkF m 342 #[.val (.int x0), .val (.int x1), .val (.int x2), .val (.int x3), .val (.int x4), .val (.int x5), .val (.int z1), .val (.int z2), .val (.int (1 : Int32)), .val (.ref b4), .val (.ref b18), .val (.ref b36), .val (.ref b47), .val (.ref b58), .val (.ref b66), .val (.ref b74), .val (.ref b82), .val (.ref b90), .val (.ref b98), .val (.int ((x0 &&& (2147483647 : Int32)) % (7 : Int32))), .val .null, .val (.int (0 : Int32)), .val (.int (0 : Int32)), .unset, .unset] [(.ref b74), (.ref b82)])) _
                    have f163 := ((((c87_0.ext E90).keep Kc95 (ninS (own_ne (a := b82) (b := b90) (by omega)) nin0)).ext E98).keep Kc103 (ninS (own_ne (a := b82) (b := b98) (by omega)) nin0))
                    have f164 := ((((((c79_0.ext E82).keep Kc87 (ninS (own_ne (a := b74) (b := b82) (by omega)) nin0)).ext E90).keep Kc95 (ninS (own_ne (a := b74) (b := b90) (by omega)) nin0)).ext E98).keep Kc103 (ninS (own_ne (a := b74) (b := b98) (by omega)) nin0))
                    have f165 := (((((A82.keep Kc87).ext E90).keep Kc95).ext E98).keep Kc103)
                    obtain ⟨cqiv166, kqiv166, qiv166a, qiv166b, qiv166c⟩ := isOf hZ103 e162 f165
                    obtain ⟨_, _, ⟨T167, L167, k167, n167⟩, -, X167, ⟨Lc167, hQ167, l167, y167, z167⟩, st167⟩ := X162.virtualBack hx (y := own_m12) (z := own_m12) hown103 (mvT hZ103 (hw _ (List.mem_of_getElem? (i := 80) rfl))) (mvT hZ103 (hw _ (List.mem_of_getElem? (i := 81) rfl))) (notFace_of_selects (args := #[]) (mvT hZ103 (hw _ (List.mem_of_getElem? (i := 83) rfl)))) (mvT hZ103 (hw _ (List.mem_of_getElem? (i := 83) rfl))) (mvT hZ103 (hw _ (List.mem_of_getElem? (i := 82) rfl))) (by decide) (backOf (W := 0) (own_eqT l Z a0 hw [] b82 b74 b58 h103 n0 O104 f160 f163 f164) hZ103 (hw _ (List.mem_of_getElem? (i := 84) rfl)) (hw _ (List.mem_of_getElem? (i := 51) rfl)) (by decide) (by decide)) qiv166a qiv166c (g := (mkF m 342 #[.val (.int x0), .val (.int x1), .val (.int x2), .val (.int x3), .val (.int x4), .val (.int x5), .val (.int z1), .val (.int z2), .val (.int (1 : Int32)), .val (.ref b4), .val (.ref b18), .val (.ref b36), .val (.ref b47), .val (.ref b58), .val (.ref b66), .val (.ref b74), .val (.ref b82), .val (.ref b90), .val (.ref b98), .val (.int ((x0 &&& (2147483647 : Int32)) % (7 : Int32))), .val .null, .val (.int (0 : Int32)), .val (.int (0 : Int32)), .unset, .unset] [(.ref b74), (.ref b82)])) rfl (by rw [hml]; rfl) (Steps.refl _) (argsL := [(.ref b74)]) (rest := []) (lenOf own_pd_11 rfl) rfl (by show 2 * 0 + _ ≤ _; exact Nat.le_of_eq rfl) (hb hby at_342) (fun _ _ => ⟨rfl, e162, (by decide : 24 + 0 ≤ _), (by decide : 168 + 0 ≤ _)⟩)
                    dsimp only [Pt.U, Pt.locs, Pt.cells, Pt.slots] at X167 l167 y167 z167 st167 hQ167
                    subst l167 y167 z167
                    obtain ⟨Nc167, e167, rfl⟩ := hQ167
                    have N167 := Fr.app N162 Nc167
                    refine own_goS st167 ?_
                    show own_Goes p e below (T167.setTop (mkF m 345 #[.val (.int x0), .val (.int x1), .val (.int x2), .val (.int x3), .val (.int x4), .val (.int x5), .val (.int z1), .val (.int z2), .val (.int (1 : Int32)), .val (.ref b4), .val (.ref b18), .val (.ref b36), .val (.ref b47), .val (.ref b58), .val (.ref b66), .val (.ref b74), .val (.ref b82), .val (.ref b90), .val (.ref b98), .val (.int ((x0 &&& (2147483647 : Int32)) % (7 : Int32))), .val .null, .val (.int (0 : Int32)), .val (.int (0 : Int32)), .unset, .unset] [(.int (1 : Int32))])) _
                    refine own_go (fun t_ k_ => XS.istore X167.here hx rfl (hb hby at_345) rfl (l' := #[.val (.int x0), .val (.int x1), .val (.int x2), .val (.int x3), .val (.int x4), .val (.int x5), .val (.int z1), .val (.int z2), .val (.int (1 : Int32)), .val (.ref b4), .val (.ref b18), .val (.ref b36), .val (.ref b47), .val (.ref b58), .val (.ref b66), .val (.ref b74), .val (.ref b82), .val (.ref b90), .val (.ref b98), .val (.int ((x0 &&& (2147483647 : Int32)) % (7 : Int32))), .val .null, .val (.int (0 : Int32)), .val (.int (0 : Int32)), .val (.int (1 : Int32)), .unset]) rfl k_) ?_
                    show own_Goes p e below (T167.setTop (mkF m 347 #[.val (.int x0), .val (.int x1), .val (.int x2), .val (.int x3), .val (.int x4), .val (.int x5), .val (.int z1), .val (.int z2), .val (.int (1 : Int32)), .val (.ref b4), .val (.ref b18), .val (.ref b36), .val (.ref b47), .val (.ref b58), .val (.ref b66), .val (.ref b74), .val (.ref b82), .val (.ref b90), .val (.ref b98), .val (.int ((x0 &&& (2147483647 : Int32)) % (7 : Int32))), .val .null, .val (.int (0 : Int32)), .val (.int (0 : Int32)), .val (.int (1 : Int32)), .unset] [])) _
                    refine own_go (fun t_ k_ => XS.aload X167.here hx rfl (hb hby at_347) rfl rfl k_) ?_
                    show own_Goes p e below (T167.setTop (mkF m 349 #[.val (.int x0), .val (.int x1), .val (.int x2), .val (.int x3), .val (.int x4), .val (.int x5), .val (.int z1), .val (.int z2), .val (.int (1 : Int32)), .val (.ref b4), .val (.ref b18), .val (.ref b36), .val (.ref b47), .val (.ref b58), .val (.ref b66), .val (.ref b74), .val (.ref b82), .val (.ref b90), .val (.ref b98), .val (.int ((x0 &&& (2147483647 : Int32)) % (7 : Int32))), .val .null, .val (.int (0 : Int32)), .val (.int (0 : Int32)), .val (.int (1 : Int32)), .unset] [(.ref b90)])) _
                    refine own_go (fun t_ k_ => XS.aload X167.here hx rfl (hb hby at_349) rfl rfl k_) ?_
                    show own_Goes p e below (T167.setTop (mkF m 351 #[.val (.int x0), .val (.int x1), .val (.int x2), .val (.int x3), .val (.int x4), .val (.int x5), .val (.int z1), .val (.int z2), .val (.int (1 : Int32)), .val (.ref b4), .val (.ref b18), .val (.ref b36), .val (.ref b47), .val (.ref b58), .val (.ref b66), .val (.ref b74), .val (.ref b82), .val (.ref b90), .val (.ref b98), .val (.int ((x0 &&& (2147483647 : Int32)) % (7 : Int32))), .val .null, .val (.int (0 : Int32)), .val (.int (0 : Int32)), .val (.int (1 : Int32)), .unset] [(.ref b74), (.ref b90)])) _
                    have f168 := ((c95_0.ext E98).keep Kc103 (ninS (own_ne (a := b90) (b := b98) (by omega)) nin0))
                    have f169 := (((A90.keep Kc95).ext E98).keep Kc103)
                    obtain ⟨cqiv170, kqiv170, qiv170a, qiv170b, qiv170c⟩ := isOf hZ103 e167 f169
                    obtain ⟨_, _, ⟨T171, L171, k171, n171⟩, -, X171, ⟨Lc171, hQ171, l171, y171, z171⟩, st171⟩ := X167.virtualBack hx (y := own_m12) (z := own_m12) hown103 (mvT hZ103 (hw _ (List.mem_of_getElem? (i := 80) rfl))) (mvT hZ103 (hw _ (List.mem_of_getElem? (i := 81) rfl))) (notFace_of_selects (args := #[]) (mvT hZ103 (hw _ (List.mem_of_getElem? (i := 83) rfl)))) (mvT hZ103 (hw _ (List.mem_of_getElem? (i := 83) rfl))) (mvT hZ103 (hw _ (List.mem_of_getElem? (i := 82) rfl))) (by decide) (backOf (W := 0) (own_eqF l Z a0 hw [] b90 b74 b66 b58 h103 n0 O104 f160 f168 f164 (show ¬ b58 = b66 from (by omega))) hZ103 (hw _ (List.mem_of_getElem? (i := 84) rfl)) (hw _ (List.mem_of_getElem? (i := 51) rfl)) (by decide) (by decide)) qiv170a qiv170c (g := (mkF m 351 #[.val (.int x0), .val (.int x1), .val (.int x2), .val (.int x3), .val (.int x4), .val (.int x5), .val (.int z1), .val (.int z2), .val (.int (1 : Int32)), .val (.ref b4), .val (.ref b18), .val (.ref b36), .val (.ref b47), .val (.ref b58), .val (.ref b66), .val (.ref b74), .val (.ref b82), .val (.ref b90), .val (.ref b98), .val (.int ((x0 &&& (2147483647 : Int32)) % (7 : Int32))), .val .null, .val (.int (0 : Int32)), .val (.int (0 : Int32)), .val (.int (1 : Int32)), .unset] [(.ref b74), (.ref b90)])) rfl (by rw [hml]; rfl) (Steps.refl _) (argsL := [(.ref b74)]) (rest := []) (lenOf own_pd_11 rfl) rfl (by show 2 * 0 + _ ≤ _; exact Nat.le_of_eq rfl) (hb hby at_351) (fun _ _ => ⟨rfl, e167, (by decide : 24 + 0 ≤ _), (by decide : 168 + 0 ≤ _)⟩)
                    dsimp only [Pt.U, Pt.locs, Pt.cells, Pt.slots] at X171 l171 y171 z171 st171 hQ171
                    subst l171 y171 z171
                    obtain ⟨Nc171, e171, rfl⟩ := hQ171
                    have N171 := Fr.app N167 Nc171
                    refine own_goS st171 ?_
                    show own_Goes p e below (T171.setTop (mkF m 354 #[.val (.int x0), .val (.int x1), .val (.int x2), .val (.int x3), .val (.int x4), .val (.int x5), .val (.int z1), .val (.int z2), .val (.int (1 : Int32)), .val (.ref b4), .val (.ref b18), .val (.ref b36), .val (.ref b47), .val (.ref b58), .val (.ref b66), .val (.ref b74), .val (.ref b82), .val (.ref b90), .val (.ref b98), .val (.int ((x0 &&& (2147483647 : Int32)) % (7 : Int32))), .val .null, .val (.int (0 : Int32)), .val (.int (0 : Int32)), .val (.int (1 : Int32)), .unset] [(.int (0 : Int32))])) _
                    refine own_go (fun t_ k_ => XS.istore X171.here hx rfl (hb hby at_354) rfl (l' := #[.val (.int x0), .val (.int x1), .val (.int x2), .val (.int x3), .val (.int x4), .val (.int x5), .val (.int z1), .val (.int z2), .val (.int (1 : Int32)), .val (.ref b4), .val (.ref b18), .val (.ref b36), .val (.ref b47), .val (.ref b58), .val (.ref b66), .val (.ref b74), .val (.ref b82), .val (.ref b90), .val (.ref b98), .val (.int ((x0 &&& (2147483647 : Int32)) % (7 : Int32))), .val .null, .val (.int (0 : Int32)), .val (.int (0 : Int32)), .val (.int (1 : Int32)), .val (.int (0 : Int32))]) rfl k_) ?_
                    show own_Goes p e below (T171.setTop (mkF m 356 #[.val (.int x0), .val (.int x1), .val (.int x2), .val (.int x3), .val (.int x4), .val (.int x5), .val (.int z1), .val (.int z2), .val (.int (1 : Int32)), .val (.ref b4), .val (.ref b18), .val (.ref b36), .val (.ref b47), .val (.ref b58), .val (.ref b66), .val (.ref b74), .val (.ref b82), .val (.ref b90), .val (.ref b98), .val (.int ((x0 &&& (2147483647 : Int32)) % (7 : Int32))), .val .null, .val (.int (0 : Int32)), .val (.int (0 : Int32)), .val (.int (1 : Int32)), .val (.int (0 : Int32))] [])) _
                    refine own_go (fun t_ k_ => XS.iload X171.here hx rfl (hb hby at_356) rfl k_) ?_
                    show own_Goes p e below (T171.setTop (mkF m 358 #[.val (.int x0), .val (.int x1), .val (.int x2), .val (.int x3), .val (.int x4), .val (.int x5), .val (.int z1), .val (.int z2), .val (.int (1 : Int32)), .val (.ref b4), .val (.ref b18), .val (.ref b36), .val (.ref b47), .val (.ref b58), .val (.ref b66), .val (.ref b74), .val (.ref b82), .val (.ref b90), .val (.ref b98), .val (.int ((x0 &&& (2147483647 : Int32)) % (7 : Int32))), .val .null, .val (.int (0 : Int32)), .val (.int (0 : Int32)), .val (.int (1 : Int32)), .val (.int (0 : Int32))] [(.int (0 : Int32))])) _
                    refine own_go (fun t_ k_ => XS.iload X171.here hx rfl (hb hby at_358) rfl k_) ?_
                    show own_Goes p e below (T171.setTop (mkF m 360 #[.val (.int x0), .val (.int x1), .val (.int x2), .val (.int x3), .val (.int x4), .val (.int x5), .val (.int z1), .val (.int z2), .val (.int (1 : Int32)), .val (.ref b4), .val (.ref b18), .val (.ref b36), .val (.ref b47), .val (.ref b58), .val (.ref b66), .val (.ref b74), .val (.ref b82), .val (.ref b90), .val (.ref b98), .val (.int ((x0 &&& (2147483647 : Int32)) % (7 : Int32))), .val .null, .val (.int (0 : Int32)), .val (.int (0 : Int32)), .val (.int (1 : Int32)), .val (.int (0 : Int32))] [(.int (0 : Int32)), (.int (0 : Int32))])) _
                    refine own_go (fun t_ k_ => XS.icmpNo X171.here hx rfl (hb hby at_360) rfl (teq (show ((0 : Int32) = (0 : Int32)) from by decide)).2 k_) ?_
                    show own_Goes p e below (T171.setTop (mkF m 363 #[.val (.int x0), .val (.int x1), .val (.int x2), .val (.int x3), .val (.int x4), .val (.int x5), .val (.int z1), .val (.int z2), .val (.int (1 : Int32)), .val (.ref b4), .val (.ref b18), .val (.ref b36), .val (.ref b47), .val (.ref b58), .val (.ref b66), .val (.ref b74), .val (.ref b82), .val (.ref b90), .val (.ref b98), .val (.int ((x0 &&& (2147483647 : Int32)) % (7 : Int32))), .val .null, .val (.int (0 : Int32)), .val (.int (0 : Int32)), .val (.int (1 : Int32)), .val (.int (0 : Int32))] [])) _
                    refine own_go (fun t_ k_ => XS.iload X171.here hx rfl (hb hby at_363) rfl k_) ?_
                    show own_Goes p e below (T171.setTop (mkF m 365 #[.val (.int x0), .val (.int x1), .val (.int x2), .val (.int x3), .val (.int x4), .val (.int x5), .val (.int z1), .val (.int z2), .val (.int (1 : Int32)), .val (.ref b4), .val (.ref b18), .val (.ref b36), .val (.ref b47), .val (.ref b58), .val (.ref b66), .val (.ref b74), .val (.ref b82), .val (.ref b90), .val (.ref b98), .val (.int ((x0 &&& (2147483647 : Int32)) % (7 : Int32))), .val .null, .val (.int (0 : Int32)), .val (.int (0 : Int32)), .val (.int (1 : Int32)), .val (.int (0 : Int32))] [(.int (1 : Int32))])) _
                    refine own_go (fun t_ k_ => XS.ifNo X171.here hx rfl (hb hby at_365) rfl ((if0 _ _).trans (feq (show ¬ ((1 : Int32) = (0 : Int32)) from by decide)).1) k_) ?_
                    show own_Goes p e below (T171.setTop (mkF m 368 #[.val (.int x0), .val (.int x1), .val (.int x2), .val (.int x3), .val (.int x4), .val (.int x5), .val (.int z1), .val (.int z2), .val (.int (1 : Int32)), .val (.ref b4), .val (.ref b18), .val (.ref b36), .val (.ref b47), .val (.ref b58), .val (.ref b66), .val (.ref b74), .val (.ref b82), .val (.ref b90), .val (.ref b98), .val (.int ((x0 &&& (2147483647 : Int32)) % (7 : Int32))), .val .null, .val (.int (0 : Int32)), .val (.int (0 : Int32)), .val (.int (1 : Int32)), .val (.int (0 : Int32))] [])) _
                    refine own_go (fun t_ k_ => XS.iload X171.here hx rfl (hb hby at_368) rfl k_) ?_
                    show own_Goes p e below (T171.setTop (mkF m 370 #[.val (.int x0), .val (.int x1), .val (.int x2), .val (.int x3), .val (.int x4), .val (.int x5), .val (.int z1), .val (.int z2), .val (.int (1 : Int32)), .val (.ref b4), .val (.ref b18), .val (.ref b36), .val (.ref b47), .val (.ref b58), .val (.ref b66), .val (.ref b74), .val (.ref b82), .val (.ref b90), .val (.ref b98), .val (.int ((x0 &&& (2147483647 : Int32)) % (7 : Int32))), .val .null, .val (.int (0 : Int32)), .val (.int (0 : Int32)), .val (.int (1 : Int32)), .val (.int (0 : Int32))] [(.int (0 : Int32))])) _
                    refine own_go (fun t_ k_ => XS.ifNo X171.here hx rfl (hb hby at_370) rfl ((if0 _ _).trans (teq (show ((0 : Int32) = (0 : Int32)) from by decide)).2) k_) ?_
                    show own_Goes p e below (T171.setTop (mkF m 373 #[.val (.int x0), .val (.int x1), .val (.int x2), .val (.int x3), .val (.int x4), .val (.int x5), .val (.int z1), .val (.int z2), .val (.int (1 : Int32)), .val (.ref b4), .val (.ref b18), .val (.ref b36), .val (.ref b47), .val (.ref b58), .val (.ref b66), .val (.ref b74), .val (.ref b82), .val (.ref b90), .val (.ref b98), .val (.int ((x0 &&& (2147483647 : Int32)) % (7 : Int32))), .val .null, .val (.int (0 : Int32)), .val (.int (0 : Int32)), .val (.int (1 : Int32)), .val (.int (0 : Int32))] [])) _
                    refine own_go (fun t_ k_ => XS.iconst X171.here hx rfl (hb hby at_373) k_) ?_
                    show own_Goes p e below (T171.setTop (mkF m 374 #[.val (.int x0), .val (.int x1), .val (.int x2), .val (.int x3), .val (.int x4), .val (.int x5), .val (.int z1), .val (.int z2), .val (.int (1 : Int32)), .val (.ref b4), .val (.ref b18), .val (.ref b36), .val (.ref b47), .val (.ref b58), .val (.ref b66), .val (.ref b74), .val (.ref b82), .val (.ref b90), .val (.ref b98), .val (.int ((x0 &&& (2147483647 : Int32)) % (7 : Int32))), .val .null, .val (.int (0 : Int32)), .val (.int (0 : Int32)), .val (.int (1 : Int32)), .val (.int (0 : Int32))] [(.int (1 : Int32))])) _
                    refine own_go (fun t_ k_ => XS.goto X171.here hx rfl (pc0 := 374) (pc' := 378) rfl (hb hby at_374) (by decide) (by decide) k_) ?_
                    show own_Goes p e below (T171.setTop (mkF m 378 #[.val (.int x0), .val (.int x1), .val (.int x2), .val (.int x3), .val (.int x4), .val (.int x5), .val (.int z1), .val (.int z2), .val (.int (1 : Int32)), .val (.ref b4), .val (.ref b18), .val (.ref b36), .val (.ref b47), .val (.ref b58), .val (.ref b66), .val (.ref b74), .val (.ref b82), .val (.ref b90), .val (.ref b98), .val (.int ((x0 &&& (2147483647 : Int32)) % (7 : Int32))), .val .null, .val (.int (0 : Int32)), .val (.int (0 : Int32)), .val (.int (1 : Int32)), .val (.int (0 : Int32))] [(.int (1 : Int32))])) _
                    refine own_endW X171 hS103 (show _ ≤ T171.heap.size by rw [e171]; exact hk103) (v := (some (.int (1 : Int32)))) (fun h => by rw [hret] at h; cases h) hlk (by decide) (by decide) ?_ (fun fs hr => retOut X171 hx hret rfl (Or.inl ⟨rfl, Or.inr (Or.inl rfl), _, rfl⟩) (hb hby at_378) hr)
                    show Q_rm0 Z x0 x1 x2 x3 x4 x5 gz h0 n0 _ T171.heap _
                    rw [e171]
                    exact ⟨N171, trivial, rfl⟩
                  · refine own_go (fun t_ k_ => XS.icmpYes X103.here hx rfl (pc0 := 294) (pc' := 306) rfl (hb hby at_294) rfl (feq hc159).2 (by decide) (by decide) k_) ?_
                    show own_Goes p e below (T103.setTop (mkF m 306 #[.val (.int x0), .val (.int x1), .val (.int x2), .val (.int x3), .val (.int x4), .val (.int x5), .val (.int z1), .val (.int z2), .val (.int (1 : Int32)), .val (.ref b4), .val (.ref b18), .val (.ref b36), .val (.ref b47), .val (.ref b58), .val (.ref b66), .val (.ref b74), .val (.ref b82), .val (.ref b90), .val (.ref b98), .val (.int ((x0 &&& (2147483647 : Int32)) % (7 : Int32))), .unset, .unset, .unset, .unset, .unset] [])) _
                    refine own_go (fun t_ k_ => XS.iload X103.here hx rfl (hb hby at_306) rfl k_) ?_
                    show own_Goes p e below (T103.setTop (mkF m 308 #[.val (.int x0), .val (.int x1), .val (.int x2), .val (.int x3), .val (.int x4), .val (.int x5), .val (.int z1), .val (.int z2), .val (.int (1 : Int32)), .val (.ref b4), .val (.ref b18), .val (.ref b36), .val (.ref b47), .val (.ref b58), .val (.ref b66), .val (.ref b74), .val (.ref b82), .val (.ref b90), .val (.ref b98), .val (.int ((x0 &&& (2147483647 : Int32)) % (7 : Int32))), .unset, .unset, .unset, .unset, .unset] [(.int ((x0 &&& (2147483647 : Int32)) % (7 : Int32)))])) _
                    refine own_go (fun t_ k_ => XS.iconst X103.here hx rfl (hb hby at_308) k_) ?_
                    show own_Goes p e below (T103.setTop (mkF m 309 #[.val (.int x0), .val (.int x1), .val (.int x2), .val (.int x3), .val (.int x4), .val (.int x5), .val (.int z1), .val (.int z2), .val (.int (1 : Int32)), .val (.ref b4), .val (.ref b18), .val (.ref b36), .val (.ref b47), .val (.ref b58), .val (.ref b66), .val (.ref b74), .val (.ref b82), .val (.ref b90), .val (.ref b98), .val (.int ((x0 &&& (2147483647 : Int32)) % (7 : Int32))), .unset, .unset, .unset, .unset, .unset] [(.int (5 : Int32)), (.int ((x0 &&& (2147483647 : Int32)) % (7 : Int32)))])) _
                    by_cases hc172 : ((x0 &&& (2147483647 : Int32)) % (7 : Int32)) = (5 : Int32)
                    · refine own_go (fun t_ k_ => XS.icmpNo X103.here hx rfl (hb hby at_309) rfl (teq hc172).2 k_) ?_
                      show own_Goes p e below (T103.setTop (mkF m 312 #[.val (.int x0), .val (.int x1), .val (.int x2), .val (.int x3), .val (.int x4), .val (.int x5), .val (.int z1), .val (.int z2), .val (.int (1 : Int32)), .val (.ref b4), .val (.ref b18), .val (.ref b36), .val (.ref b47), .val (.ref b58), .val (.ref b66), .val (.ref b74), .val (.ref b82), .val (.ref b90), .val (.ref b98), .val (.int ((x0 &&& (2147483647 : Int32)) % (7 : Int32))), .unset, .unset, .unset, .unset, .unset] [])) _
                      refine own_go (fun t_ k_ => XS.aload X103.here hx rfl (hb hby at_312) rfl rfl k_) ?_
                      show own_Goes p e below (T103.setTop (mkF m 314 #[.val (.int x0), .val (.int x1), .val (.int x2), .val (.int x3), .val (.int x4), .val (.int x5), .val (.int z1), .val (.int z2), .val (.int (1 : Int32)), .val (.ref b4), .val (.ref b18), .val (.ref b36), .val (.ref b47), .val (.ref b58), .val (.ref b66), .val (.ref b74), .val (.ref b82), .val (.ref b90), .val (.ref b98), .val (.int ((x0 &&& (2147483647 : Int32)) % (7 : Int32))), .unset, .unset, .unset, .unset, .unset] [(.ref b58)])) _
                      refine own_go (fun t_ k_ => XS.astore X103.here hx rfl (hb hby at_314) rfl rfl (l' := #[.val (.int x0), .val (.int x1), .val (.int x2), .val (.int x3), .val (.int x4), .val (.int x5), .val (.int z1), .val (.int z2), .val (.int (1 : Int32)), .val (.ref b4), .val (.ref b18), .val (.ref b36), .val (.ref b47), .val (.ref b58), .val (.ref b66), .val (.ref b74), .val (.ref b82), .val (.ref b90), .val (.ref b98), .val (.int ((x0 &&& (2147483647 : Int32)) % (7 : Int32))), .val (.ref b58), .unset, .unset, .unset, .unset]) rfl k_) ?_
                      show own_Goes p e below (T103.setTop (mkF m 316 #[.val (.int x0), .val (.int x1), .val (.int x2), .val (.int x3), .val (.int x4), .val (.int x5), .val (.int z1), .val (.int z2), .val (.int (1 : Int32)), .val (.ref b4), .val (.ref b18), .val (.ref b36), .val (.ref b47), .val (.ref b58), .val (.ref b66), .val (.ref b74), .val (.ref b82), .val (.ref b90), .val (.ref b98), .val (.int ((x0 &&& (2147483647 : Int32)) % (7 : Int32))), .val (.ref b58), .unset, .unset, .unset, .unset] [])) _
                      refine own_go (fun t_ k_ => XS.iconst X103.here hx rfl (hb hby at_316) k_) ?_
                      show own_Goes p e below (T103.setTop (mkF m 317 #[.val (.int x0), .val (.int x1), .val (.int x2), .val (.int x3), .val (.int x4), .val (.int x5), .val (.int z1), .val (.int z2), .val (.int (1 : Int32)), .val (.ref b4), .val (.ref b18), .val (.ref b36), .val (.ref b47), .val (.ref b58), .val (.ref b66), .val (.ref b74), .val (.ref b82), .val (.ref b90), .val (.ref b98), .val (.int ((x0 &&& (2147483647 : Int32)) % (7 : Int32))), .val (.ref b58), .unset, .unset, .unset, .unset] [(.int (0 : Int32))])) _
                      refine own_go (fun t_ k_ => XS.istore X103.here hx rfl (hb hby at_317) rfl (l' := #[.val (.int x0), .val (.int x1), .val (.int x2), .val (.int x3), .val (.int x4), .val (.int x5), .val (.int z1), .val (.int z2), .val (.int (1 : Int32)), .val (.ref b4), .val (.ref b18), .val (.ref b36), .val (.ref b47), .val (.ref b58), .val (.ref b66), .val (.ref b74), .val (.ref b82), .val (.ref b90), .val (.ref b98), .val (.int ((x0 &&& (2147483647 : Int32)) % (7 : Int32))), .val (.ref b58), .val (.int (0 : Int32)), .unset, .unset, .unset]) rfl k_) ?_
                      show own_Goes p e below (T103.setTop (mkF m 319 #[.val (.int x0), .val (.int x1), .val (.int x2), .val (.int x3), .val (.int x4), .val (.int x5), .val (.int z1), .val (.int z2), .val (.int (1 : Int32)), .val (.ref b4), .val (.ref b18), .val (.ref b36), .val (.ref b47), .val (.ref b58), .val (.ref b66), .val (.ref b74), .val (.ref b82), .val (.ref b90), .val (.ref b98), .val (.int ((x0 &&& (2147483647 : Int32)) % (7 : Int32))), .val (.ref b58), .val (.int (0 : Int32)), .unset, .unset, .unset] [])) _
                      refine own_go (fun t_ k_ => XS.goto X103.here hx rfl (pc0 := 319) (pc' := 329) rfl (hb hby at_319) (by decide) (by decide) k_) ?_
                      show own_Goes p e below (T103.setTop (mkF m 329 #[.val (.int x0), .val (.int x1), .val (.int x2), .val (.int x3), .val (.int x4), .val (.int x5), .val (.int z1), .val (.int z2), .val (.int (1 : Int32)), .val (.ref b4), .val (.ref b18), .val (.ref b36), .val (.ref b47), .val (.ref b58), .val (.ref b66), .val (.ref b74), .val (.ref b82), .val (.ref b90), .val (.ref b98), .val (.int ((x0 &&& (2147483647 : Int32)) % (7 : Int32))), .val (.ref b58), .val (.int (0 : Int32)), .unset, .unset, .unset] [])) _
                      refine own_go (fun t_ k_ => XS.aload X103.here hx rfl (hb hby at_329) rfl rfl k_) ?_
                      show own_Goes p e below (T103.setTop (mkF m 331 #[.val (.int x0), .val (.int x1), .val (.int x2), .val (.int x3), .val (.int x4), .val (.int x5), .val (.int z1), .val (.int z2), .val (.int (1 : Int32)), .val (.ref b4), .val (.ref b18), .val (.ref b36), .val (.ref b47), .val (.ref b58), .val (.ref b66), .val (.ref b74), .val (.ref b82), .val (.ref b90), .val (.ref b98), .val (.int ((x0 &&& (2147483647 : Int32)) % (7 : Int32))), .val (.ref b58), .val (.int (0 : Int32)), .unset, .unset, .unset] [(.ref b74)])) _
                      refine own_go (fun t_ k_ => XS.aload X103.here hx rfl (hb hby at_331) rfl rfl k_) ?_
                      show own_Goes p e below (T103.setTop (mkF m 333 #[.val (.int x0), .val (.int x1), .val (.int x2), .val (.int x3), .val (.int x4), .val (.int x5), .val (.int z1), .val (.int z2), .val (.int (1 : Int32)), .val (.ref b4), .val (.ref b18), .val (.ref b36), .val (.ref b47), .val (.ref b58), .val (.ref b66), .val (.ref b74), .val (.ref b82), .val (.ref b90), .val (.ref b98), .val (.int ((x0 &&& (2147483647 : Int32)) % (7 : Int32))), .val (.ref b58), .val (.int (0 : Int32)), .unset, .unset, .unset] [(.ref b58), (.ref b74)])) _
                      have f173 := (((((f86.keep Kc87).ext E90).keep Kc95).ext E98).keep Kc103)
                      have f174 := (((((((A74.keep Kc79).ext E82).keep Kc87).ext E90).keep Kc95).ext E98).keep Kc103)
                      obtain ⟨cqiv175, kqiv175, qiv175a, qiv175b, qiv175c⟩ := isOf hZ103 e103 f174
                      obtain ⟨_, _, ⟨T176, L176, k176, n176⟩, -, X176, ⟨Lc176, hQ176, l176, y176, z176⟩, st176⟩ := X103.virtualBack hx (y := own_m12) (z := own_m12) hown103 (mvT hZ103 (hw _ (List.mem_of_getElem? (i := 80) rfl))) (mvT hZ103 (hw _ (List.mem_of_getElem? (i := 81) rfl))) (notFace_of_selects (args := #[]) (mvT hZ103 (hw _ (List.mem_of_getElem? (i := 83) rfl)))) (mvT hZ103 (hw _ (List.mem_of_getElem? (i := 83) rfl))) (mvT hZ103 (hw _ (List.mem_of_getElem? (i := 82) rfl))) (by decide) (backOf (W := 0) (own_eqO1 l Z a0 hw [] b74 b58 h103 n0 O104 f173) hZ103 (hw _ (List.mem_of_getElem? (i := 84) rfl)) (hw _ (List.mem_of_getElem? (i := 51) rfl)) (by decide) (by decide)) qiv175a qiv175c (g := (mkF m 333 #[.val (.int x0), .val (.int x1), .val (.int x2), .val (.int x3), .val (.int x4), .val (.int x5), .val (.int z1), .val (.int z2), .val (.int (1 : Int32)), .val (.ref b4), .val (.ref b18), .val (.ref b36), .val (.ref b47), .val (.ref b58), .val (.ref b66), .val (.ref b74), .val (.ref b82), .val (.ref b90), .val (.ref b98), .val (.int ((x0 &&& (2147483647 : Int32)) % (7 : Int32))), .val (.ref b58), .val (.int (0 : Int32)), .unset, .unset, .unset] [(.ref b58), (.ref b74)])) rfl (by rw [hml]; rfl) (Steps.refl _) (argsL := [(.ref b58)]) (rest := []) (lenOf own_pd_11 rfl) rfl (by show 2 * 0 + _ ≤ _; exact Nat.le_of_eq rfl) (hb hby at_333) (fun _ _ => ⟨rfl, e103, (by decide : 24 + 0 ≤ _), (by decide : 168 + 0 ≤ _)⟩)
                      dsimp only [Pt.U, Pt.locs, Pt.cells, Pt.slots] at X176 l176 y176 z176 st176 hQ176
                      subst l176 y176 z176
                      obtain ⟨Nc176, e176, rfl⟩ := hQ176
                      have N176 := Fr.app N103 Nc176
                      refine own_goS st176 ?_
                      show own_Goes p e below (T176.setTop (mkF m 336 #[.val (.int x0), .val (.int x1), .val (.int x2), .val (.int x3), .val (.int x4), .val (.int x5), .val (.int z1), .val (.int z2), .val (.int (1 : Int32)), .val (.ref b4), .val (.ref b18), .val (.ref b36), .val (.ref b47), .val (.ref b58), .val (.ref b66), .val (.ref b74), .val (.ref b82), .val (.ref b90), .val (.ref b98), .val (.int ((x0 &&& (2147483647 : Int32)) % (7 : Int32))), .val (.ref b58), .val (.int (0 : Int32)), .unset, .unset, .unset] [(.int (0 : Int32))])) _
                      refine own_go (fun t_ k_ => XS.istore X176.here hx rfl (hb hby at_336) rfl (l' := #[.val (.int x0), .val (.int x1), .val (.int x2), .val (.int x3), .val (.int x4), .val (.int x5), .val (.int z1), .val (.int z2), .val (.int (1 : Int32)), .val (.ref b4), .val (.ref b18), .val (.ref b36), .val (.ref b47), .val (.ref b58), .val (.ref b66), .val (.ref b74), .val (.ref b82), .val (.ref b90), .val (.ref b98), .val (.int ((x0 &&& (2147483647 : Int32)) % (7 : Int32))), .val (.ref b58), .val (.int (0 : Int32)), .val (.int (0 : Int32)), .unset, .unset]) rfl k_) ?_
                      show own_Goes p e below (T176.setTop (mkF m 338 #[.val (.int x0), .val (.int x1), .val (.int x2), .val (.int x3), .val (.int x4), .val (.int x5), .val (.int z1), .val (.int z2), .val (.int (1 : Int32)), .val (.ref b4), .val (.ref b18), .val (.ref b36), .val (.ref b47), .val (.ref b58), .val (.ref b66), .val (.ref b74), .val (.ref b82), .val (.ref b90), .val (.ref b98), .val (.int ((x0 &&& (2147483647 : Int32)) % (7 : Int32))), .val (.ref b58), .val (.int (0 : Int32)), .val (.int (0 : Int32)), .unset, .unset] [])) _
                      refine own_go (fun t_ k_ => XS.aload X176.here hx rfl (hb hby at_338) rfl rfl k_) ?_
                      show own_Goes p e below (T176.setTop (mkF m 340 #[.val (.int x0), .val (.int x1), .val (.int x2), .val (.int x3), .val (.int x4), .val (.int x5), .val (.int z1), .val (.int z2), .val (.int (1 : Int32)), .val (.ref b4), .val (.ref b18), .val (.ref b36), .val (.ref b47), .val (.ref b58), .val (.ref b66), .val (.ref b74), .val (.ref b82), .val (.ref b90), .val (.ref b98), .val (.int ((x0 &&& (2147483647 : Int32)) % (7 : Int32))), .val (.ref b58), .val (.int (0 : Int32)), .val (.int (0 : Int32)), .unset, .unset] [(.ref b82)])) _
                      refine own_go (fun t_ k_ => XS.aload X176.here hx rfl (hb hby at_340) rfl rfl k_) ?_
                      show own_Goes p e below (T176.setTop (mkF m 342 #[.val (.int x0), .val (.int x1), .val (.int x2), .val (.int x3), .val (.int x4), .val (.int x5), .val (.int z1), .val (.int z2), .val (.int (1 : Int32)), .val (.ref b4), .val (.ref b18), .val (.ref b36), .val (.ref b47), .val (.ref b58), .val (.ref b66), .val (.ref b74), .val (.ref b82), .val (.ref b90), .val (.ref b98), .val (.int ((x0 &&& (2147483647 : Int32)) % (7 : Int32))), .val (.ref b58), .val (.int (0 : Int32)), .val (.int (0 : Int32)), .unset, .unset] [(.ref b74), (.ref b82)])) _
                      have f177 := ((((c87_0.ext E90).keep Kc95 (ninS (own_ne (a := b82) (b := b90) (by omega)) nin0)).ext E98).keep Kc103 (ninS (own_ne (a := b82) (b := b98) (by omega)) nin0))
                      have f178 := ((((((c79_0.ext E82).keep Kc87 (ninS (own_ne (a := b74) (b := b82) (by omega)) nin0)).ext E90).keep Kc95 (ninS (own_ne (a := b74) (b := b90) (by omega)) nin0)).ext E98).keep Kc103 (ninS (own_ne (a := b74) (b := b98) (by omega)) nin0))
                      have f179 := (((((A82.keep Kc87).ext E90).keep Kc95).ext E98).keep Kc103)
                      obtain ⟨cqiv180, kqiv180, qiv180a, qiv180b, qiv180c⟩ := isOf hZ103 e176 f179
                      obtain ⟨_, _, ⟨T181, L181, k181, n181⟩, -, X181, ⟨Lc181, hQ181, l181, y181, z181⟩, st181⟩ := X176.virtualBack hx (y := own_m12) (z := own_m12) hown103 (mvT hZ103 (hw _ (List.mem_of_getElem? (i := 80) rfl))) (mvT hZ103 (hw _ (List.mem_of_getElem? (i := 81) rfl))) (notFace_of_selects (args := #[]) (mvT hZ103 (hw _ (List.mem_of_getElem? (i := 83) rfl)))) (mvT hZ103 (hw _ (List.mem_of_getElem? (i := 83) rfl))) (mvT hZ103 (hw _ (List.mem_of_getElem? (i := 82) rfl))) (by decide) (backOf (W := 0) (own_eqT l Z a0 hw [] b82 b74 b58 h103 n0 O104 f174 f177 f178) hZ103 (hw _ (List.mem_of_getElem? (i := 84) rfl)) (hw _ (List.mem_of_getElem? (i := 51) rfl)) (by decide) (by decide)) qiv180a qiv180c (g := (mkF m 342 #[.val (.int x0), .val (.int x1), .val (.int x2), .val (.int x3), .val (.int x4), .val (.int x5), .val (.int z1), .val (.int z2), .val (.int (1 : Int32)), .val (.ref b4), .val (.ref b18), .val (.ref b36), .val (.ref b47), .val (.ref b58), .val (.ref b66), .val (.ref b74), .val (.ref b82), .val (.ref b90), .val (.ref b98), .val (.int ((x0 &&& (2147483647 : Int32)) % (7 : Int32))), .val (.ref b58), .val (.int (0 : Int32)), .val (.int (0 : Int32)), .unset, .unset] [(.ref b74), (.ref b82)])) rfl (by rw [hml]; rfl) (Steps.refl _) (argsL := [(.ref b74)]) (rest := []) (lenOf own_pd_11 rfl) rfl (by show 2 * 0 + _ ≤ _; exact Nat.le_of_eq rfl) (hb hby at_342) (fun _ _ => ⟨rfl, e176, (by decide : 24 + 0 ≤ _), (by decide : 168 + 0 ≤ _)⟩)
                      dsimp only [Pt.U, Pt.locs, Pt.cells, Pt.slots] at X181 l181 y181 z181 st181 hQ181
                      subst l181 y181 z181
                      obtain ⟨Nc181, e181, rfl⟩ := hQ181
                      have N181 := Fr.app N176 Nc181
                      refine own_goS st181 ?_
                      show own_Goes p e below (T181.setTop (mkF m 345 #[.val (.int x0), .val (.int x1), .val (.int x2), .val (.int x3), .val (.int x4), .val (.int x5), .val (.int z1), .val (.int z2), .val (.int (1 : Int32)), .val (.ref b4), .val (.ref b18), .val (.ref b36), .val (.ref b47), .val (.ref b58), .val (.ref b66), .val (.ref b74), .val (.ref b82), .val (.ref b90), .val (.ref b98), .val (.int ((x0 &&& (2147483647 : Int32)) % (7 : Int32))), .val (.ref b58), .val (.int (0 : Int32)), .val (.int (0 : Int32)), .unset, .unset] [(.int (1 : Int32))])) _
                      refine own_go (fun t_ k_ => XS.istore X181.here hx rfl (hb hby at_345) rfl (l' := #[.val (.int x0), .val (.int x1), .val (.int x2), .val (.int x3), .val (.int x4), .val (.int x5), .val (.int z1), .val (.int z2), .val (.int (1 : Int32)), .val (.ref b4), .val (.ref b18), .val (.ref b36), .val (.ref b47), .val (.ref b58), .val (.ref b66), .val (.ref b74), .val (.ref b82), .val (.ref b90), .val (.ref b98), .val (.int ((x0 &&& (2147483647 : Int32)) % (7 : Int32))), .val (.ref b58), .val (.int (0 : Int32)), .val (.int (0 : Int32)), .val (.int (1 : Int32)), .unset]) rfl k_) ?_
                      show own_Goes p e below (T181.setTop (mkF m 347 #[.val (.int x0), .val (.int x1), .val (.int x2), .val (.int x3), .val (.int x4), .val (.int x5), .val (.int z1), .val (.int z2), .val (.int (1 : Int32)), .val (.ref b4), .val (.ref b18), .val (.ref b36), .val (.ref b47), .val (.ref b58), .val (.ref b66), .val (.ref b74), .val (.ref b82), .val (.ref b90), .val (.ref b98), .val (.int ((x0 &&& (2147483647 : Int32)) % (7 : Int32))), .val (.ref b58), .val (.int (0 : Int32)), .val (.int (0 : Int32)), .val (.int (1 : Int32)), .unset] [])) _
                      refine own_go (fun t_ k_ => XS.aload X181.here hx rfl (hb hby at_347) rfl rfl k_) ?_
                      show own_Goes p e below (T181.setTop (mkF m 349 #[.val (.int x0), .val (.int x1), .val (.int x2), .val (.int x3), .val (.int x4), .val (.int x5), .val (.int z1), .val (.int z2), .val (.int (1 : Int32)), .val (.ref b4), .val (.ref b18), .val (.ref b36), .val (.ref b47), .val (.ref b58), .val (.ref b66), .val (.ref b74), .val (.ref b82), .val (.ref b90), .val (.ref b98), .val (.int ((x0 &&& (2147483647 : Int32)) % (7 : Int32))), .val (.ref b58), .val (.int (0 : Int32)), .val (.int (0 : Int32)), .val (.int (1 : Int32)), .unset] [(.ref b90)])) _
                      refine own_go (fun t_ k_ => XS.aload X181.here hx rfl (hb hby at_349) rfl rfl k_) ?_
                      show own_Goes p e below (T181.setTop (mkF m 351 #[.val (.int x0), .val (.int x1), .val (.int x2), .val (.int x3), .val (.int x4), .val (.int x5), .val (.int z1), .val (.int z2), .val (.int (1 : Int32)), .val (.ref b4), .val (.ref b18), .val (.ref b36), .val (.ref b47), .val (.ref b58), .val (.ref b66), .val (.ref b74), .val (.ref b82), .val (.ref b90), .val (.ref b98), .val (.int ((x0 &&& (2147483647 : Int32)) % (7 : Int32))), .val (.ref b58), .val (.int (0 : Int32)), .val (.int (0 : Int32)), .val (.int (1 : Int32)), .unset] [(.ref b74), (.ref b90)])) _
                      have f182 := ((c95_0.ext E98).keep Kc103 (ninS (own_ne (a := b90) (b := b98) (by omega)) nin0))
                      have f183 := (((A90.keep Kc95).ext E98).keep Kc103)
                      obtain ⟨cqiv184, kqiv184, qiv184a, qiv184b, qiv184c⟩ := isOf hZ103 e181 f183
                      obtain ⟨_, _, ⟨T185, L185, k185, n185⟩, -, X185, ⟨Lc185, hQ185, l185, y185, z185⟩, st185⟩ := X181.virtualBack hx (y := own_m12) (z := own_m12) hown103 (mvT hZ103 (hw _ (List.mem_of_getElem? (i := 80) rfl))) (mvT hZ103 (hw _ (List.mem_of_getElem? (i := 81) rfl))) (notFace_of_selects (args := #[]) (mvT hZ103 (hw _ (List.mem_of_getElem? (i := 83) rfl)))) (mvT hZ103 (hw _ (List.mem_of_getElem? (i := 83) rfl))) (mvT hZ103 (hw _ (List.mem_of_getElem? (i := 82) rfl))) (by decide) (backOf (W := 0) (own_eqF l Z a0 hw [] b90 b74 b66 b58 h103 n0 O104 f174 f182 f178 (show ¬ b58 = b66 from (by omega))) hZ103 (hw _ (List.mem_of_getElem? (i := 84) rfl)) (hw _ (List.mem_of_getElem? (i := 51) rfl)) (by decide) (by decide)) qiv184a qiv184c (g := (mkF m 351 #[.val (.int x0), .val (.int x1), .val (.int x2), .val (.int x3), .val (.int x4), .val (.int x5), .val (.int z1), .val (.int z2), .val (.int (1 : Int32)), .val (.ref b4), .val (.ref b18), .val (.ref b36), .val (.ref b47), .val (.ref b58), .val (.ref b66), .val (.ref b74), .val (.ref b82), .val (.ref b90), .val (.ref b98), .val (.int ((x0 &&& (2147483647 : Int32)) % (7 : Int32))), .val (.ref b58), .val (.int (0 : Int32)), .val (.int (0 : Int32)), .val (.int (1 : Int32)), .unset] [(.ref b74), (.ref b90)])) rfl (by rw [hml]; rfl) (Steps.refl _) (argsL := [(.ref b74)]) (rest := []) (lenOf own_pd_11 rfl) rfl (by show 2 * 0 + _ ≤ _; exact Nat.le_of_eq rfl) (hb hby at_351) (fun _ _ => ⟨rfl, e181, (by decide : 24 + 0 ≤ _), (by decide : 168 + 0 ≤ _)⟩)
                      dsimp only [Pt.U, Pt.locs, Pt.cells, Pt.slots] at X185 l185 y185 z185 st185 hQ185
                      subst l185 y185 z185
                      obtain ⟨Nc185, e185, rfl⟩ := hQ185
                      have N185 := Fr.app N181 Nc185
                      refine own_goS st185 ?_
                      show own_Goes p e below (T185.setTop (mkF m 354 #[.val (.int x0), .val (.int x1), .val (.int x2), .val (.int x3), .val (.int x4), .val (.int x5), .val (.int z1), .val (.int z2), .val (.int (1 : Int32)), .val (.ref b4), .val (.ref b18), .val (.ref b36), .val (.ref b47), .val (.ref b58), .val (.ref b66), .val (.ref b74), .val (.ref b82), .val (.ref b90), .val (.ref b98), .val (.int ((x0 &&& (2147483647 : Int32)) % (7 : Int32))), .val (.ref b58), .val (.int (0 : Int32)), .val (.int (0 : Int32)), .val (.int (1 : Int32)), .unset] [(.int (0 : Int32))])) _
                      refine own_go (fun t_ k_ => XS.istore X185.here hx rfl (hb hby at_354) rfl (l' := #[.val (.int x0), .val (.int x1), .val (.int x2), .val (.int x3), .val (.int x4), .val (.int x5), .val (.int z1), .val (.int z2), .val (.int (1 : Int32)), .val (.ref b4), .val (.ref b18), .val (.ref b36), .val (.ref b47), .val (.ref b58), .val (.ref b66), .val (.ref b74), .val (.ref b82), .val (.ref b90), .val (.ref b98), .val (.int ((x0 &&& (2147483647 : Int32)) % (7 : Int32))), .val (.ref b58), .val (.int (0 : Int32)), .val (.int (0 : Int32)), .val (.int (1 : Int32)), .val (.int (0 : Int32))]) rfl k_) ?_
                      show own_Goes p e below (T185.setTop (mkF m 356 #[.val (.int x0), .val (.int x1), .val (.int x2), .val (.int x3), .val (.int x4), .val (.int x5), .val (.int z1), .val (.int z2), .val (.int (1 : Int32)), .val (.ref b4), .val (.ref b18), .val (.ref b36), .val (.ref b47), .val (.ref b58), .val (.ref b66), .val (.ref b74), .val (.ref b82), .val (.ref b90), .val (.ref b98), .val (.int ((x0 &&& (2147483647 : Int32)) % (7 : Int32))), .val (.ref b58), .val (.int (0 : Int32)), .val (.int (0 : Int32)), .val (.int (1 : Int32)), .val (.int (0 : Int32))] [])) _
                      refine own_go (fun t_ k_ => XS.iload X185.here hx rfl (hb hby at_356) rfl k_) ?_
                      show own_Goes p e below (T185.setTop (mkF m 358 #[.val (.int x0), .val (.int x1), .val (.int x2), .val (.int x3), .val (.int x4), .val (.int x5), .val (.int z1), .val (.int z2), .val (.int (1 : Int32)), .val (.ref b4), .val (.ref b18), .val (.ref b36), .val (.ref b47), .val (.ref b58), .val (.ref b66), .val (.ref b74), .val (.ref b82), .val (.ref b90), .val (.ref b98), .val (.int ((x0 &&& (2147483647 : Int32)) % (7 : Int32))), .val (.ref b58), .val (.int (0 : Int32)), .val (.int (0 : Int32)), .val (.int (1 : Int32)), .val (.int (0 : Int32))] [(.int (0 : Int32))])) _
                      refine own_go (fun t_ k_ => XS.iload X185.here hx rfl (hb hby at_358) rfl k_) ?_
                      show own_Goes p e below (T185.setTop (mkF m 360 #[.val (.int x0), .val (.int x1), .val (.int x2), .val (.int x3), .val (.int x4), .val (.int x5), .val (.int z1), .val (.int z2), .val (.int (1 : Int32)), .val (.ref b4), .val (.ref b18), .val (.ref b36), .val (.ref b47), .val (.ref b58), .val (.ref b66), .val (.ref b74), .val (.ref b82), .val (.ref b90), .val (.ref b98), .val (.int ((x0 &&& (2147483647 : Int32)) % (7 : Int32))), .val (.ref b58), .val (.int (0 : Int32)), .val (.int (0 : Int32)), .val (.int (1 : Int32)), .val (.int (0 : Int32))] [(.int (0 : Int32)), (.int (0 : Int32))])) _
                      refine own_go (fun t_ k_ => XS.icmpNo X185.here hx rfl (hb hby at_360) rfl (teq (show ((0 : Int32) = (0 : Int32)) from by decide)).2 k_) ?_
                      show own_Goes p e below (T185.setTop (mkF m 363 #[.val (.int x0), .val (.int x1), .val (.int x2), .val (.int x3), .val (.int x4), .val (.int x5), .val (.int z1), .val (.int z2), .val (.int (1 : Int32)), .val (.ref b4), .val (.ref b18), .val (.ref b36), .val (.ref b47), .val (.ref b58), .val (.ref b66), .val (.ref b74), .val (.ref b82), .val (.ref b90), .val (.ref b98), .val (.int ((x0 &&& (2147483647 : Int32)) % (7 : Int32))), .val (.ref b58), .val (.int (0 : Int32)), .val (.int (0 : Int32)), .val (.int (1 : Int32)), .val (.int (0 : Int32))] [])) _
                      refine own_go (fun t_ k_ => XS.iload X185.here hx rfl (hb hby at_363) rfl k_) ?_
                      show own_Goes p e below (T185.setTop (mkF m 365 #[.val (.int x0), .val (.int x1), .val (.int x2), .val (.int x3), .val (.int x4), .val (.int x5), .val (.int z1), .val (.int z2), .val (.int (1 : Int32)), .val (.ref b4), .val (.ref b18), .val (.ref b36), .val (.ref b47), .val (.ref b58), .val (.ref b66), .val (.ref b74), .val (.ref b82), .val (.ref b90), .val (.ref b98), .val (.int ((x0 &&& (2147483647 : Int32)) % (7 : Int32))), .val (.ref b58), .val (.int (0 : Int32)), .val (.int (0 : Int32)), .val (.int (1 : Int32)), .val (.int (0 : Int32))] [(.int (1 : Int32))])) _
                      refine own_go (fun t_ k_ => XS.ifNo X185.here hx rfl (hb hby at_365) rfl ((if0 _ _).trans (feq (show ¬ ((1 : Int32) = (0 : Int32)) from by decide)).1) k_) ?_
                      show own_Goes p e below (T185.setTop (mkF m 368 #[.val (.int x0), .val (.int x1), .val (.int x2), .val (.int x3), .val (.int x4), .val (.int x5), .val (.int z1), .val (.int z2), .val (.int (1 : Int32)), .val (.ref b4), .val (.ref b18), .val (.ref b36), .val (.ref b47), .val (.ref b58), .val (.ref b66), .val (.ref b74), .val (.ref b82), .val (.ref b90), .val (.ref b98), .val (.int ((x0 &&& (2147483647 : Int32)) % (7 : Int32))), .val (.ref b58), .val (.int (0 : Int32)), .val (.int (0 : Int32)), .val (.int (1 : Int32)), .val (.int (0 : Int32))] [])) _
                      refine own_go (fun t_ k_ => XS.iload X185.here hx rfl (hb hby at_368) rfl k_) ?_
                      show own_Goes p e below (T185.setTop (mkF m 370 #[.val (.int x0), .val (.int x1), .val (.int x2), .val (.int x3), .val (.int x4), .val (.int x5), .val (.int z1), .val (.int z2), .val (.int (1 : Int32)), .val (.ref b4), .val (.ref b18), .val (.ref b36), .val (.ref b47), .val (.ref b58), .val (.ref b66), .val (.ref b74), .val (.ref b82), .val (.ref b90), .val (.ref b98), .val (.int ((x0 &&& (2147483647 : Int32)) % (7 : Int32))), .val (.ref b58), .val (.int (0 : Int32)), .val (.int (0 : Int32)), .val (.int (1 : Int32)), .val (.int (0 : Int32))] [(.int (0 : Int32))])) _
                      refine own_go (fun t_ k_ => XS.ifNo X185.here hx rfl (hb hby at_370) rfl ((if0 _ _).trans (teq (show ((0 : Int32) = (0 : Int32)) from by decide)).2) k_) ?_
                      show own_Goes p e below (T185.setTop (mkF m 373 #[.val (.int x0), .val (.int x1), .val (.int x2), .val (.int x3), .val (.int x4), .val (.int x5), .val (.int z1), .val (.int z2), .val (.int (1 : Int32)), .val (.ref b4), .val (.ref b18), .val (.ref b36), .val (.ref b47), .val (.ref b58), .val (.ref b66), .val (.ref b74), .val (.ref b82), .val (.ref b90), .val (.ref b98), .val (.int ((x0 &&& (2147483647 : Int32)) % (7 : Int32))), .val (.ref b58), .val (.int (0 : Int32)), .val (.int (0 : Int32)), .val (.int (1 : Int32)), .val (.int (0 : Int32))] [])) _
                      refine own_go (fun t_ k_ => XS.iconst X185.here hx rfl (hb hby at_373) k_) ?_
                      show own_Goes p e below (T185.setTop (mkF m 374 #[.val (.int x0), .val (.int x1), .val (.int x2), .val (.int x3), .val (.int x4), .val (.int x5), .val (.int z1), .val (.int z2), .val (.int (1 : Int32)), .val (.ref b4), .val (.ref b18), .val (.ref b36), .val (.ref b47), .val (.ref b58), .val (.ref b66), .val (.ref b74), .val (.ref b82), .val (.ref b90), .val (.ref b98), .val (.int ((x0 &&& (2147483647 : Int32)) % (7 : Int32))), .val (.ref b58), .val (.int (0 : Int32)), .val (.int (0 : Int32)), .val (.int (1 : Int32)), .val (.int (0 : Int32))] [(.int (1 : Int32))])) _
                      refine own_go (fun t_ k_ => XS.goto X185.here hx rfl (pc0 := 374) (pc' := 378) rfl (hb hby at_374) (by decide) (by decide) k_) ?_
                      show own_Goes p e below (T185.setTop (mkF m 378 #[.val (.int x0), .val (.int x1), .val (.int x2), .val (.int x3), .val (.int x4), .val (.int x5), .val (.int z1), .val (.int z2), .val (.int (1 : Int32)), .val (.ref b4), .val (.ref b18), .val (.ref b36), .val (.ref b47), .val (.ref b58), .val (.ref b66), .val (.ref b74), .val (.ref b82), .val (.ref b90), .val (.ref b98), .val (.int ((x0 &&& (2147483647 : Int32)) % (7 : Int32))), .val (.ref b58), .val (.int (0 : Int32)), .val (.int (0 : Int32)), .val (.int (1 : Int32)), .val (.int (0 : Int32))] [(.int (1 : Int32))])) _
                      refine own_endW X185 hS103 (show _ ≤ T185.heap.size by rw [e185]; exact hk103) (v := (some (.int (1 : Int32)))) (fun h => by rw [hret] at h; cases h) hlk (by decide) (by decide) ?_ (fun fs hr => retOut X185 hx hret rfl (Or.inl ⟨rfl, Or.inr (Or.inl rfl), _, rfl⟩) (hb hby at_378) hr)
                      show Q_rm0 Z x0 x1 x2 x3 x4 x5 gz h0 n0 _ T185.heap _
                      rw [e185]
                      exact ⟨N185, trivial, rfl⟩
                    · refine own_go (fun t_ k_ => XS.icmpYes X103.here hx rfl (pc0 := 309) (pc' := 322) rfl (hb hby at_309) rfl (feq hc172).2 (by decide) (by decide) k_) ?_
                      show own_Goes p e below (T103.setTop (mkF m 322 #[.val (.int x0), .val (.int x1), .val (.int x2), .val (.int x3), .val (.int x4), .val (.int x5), .val (.int z1), .val (.int z2), .val (.int (1 : Int32)), .val (.ref b4), .val (.ref b18), .val (.ref b36), .val (.ref b47), .val (.ref b58), .val (.ref b66), .val (.ref b74), .val (.ref b82), .val (.ref b90), .val (.ref b98), .val (.int ((x0 &&& (2147483647 : Int32)) % (7 : Int32))), .unset, .unset, .unset, .unset, .unset] [])) _
                      refine own_go (fun t_ k_ => XS.aload X103.here hx rfl (hb hby at_322) rfl rfl k_) ?_
                      show own_Goes p e below (T103.setTop (mkF m 324 #[.val (.int x0), .val (.int x1), .val (.int x2), .val (.int x3), .val (.int x4), .val (.int x5), .val (.int z1), .val (.int z2), .val (.int (1 : Int32)), .val (.ref b4), .val (.ref b18), .val (.ref b36), .val (.ref b47), .val (.ref b58), .val (.ref b66), .val (.ref b74), .val (.ref b82), .val (.ref b90), .val (.ref b98), .val (.int ((x0 &&& (2147483647 : Int32)) % (7 : Int32))), .unset, .unset, .unset, .unset, .unset] [(.ref b36)])) _
                      refine own_go (fun t_ k_ => XS.astore X103.here hx rfl (hb hby at_324) rfl rfl (l' := #[.val (.int x0), .val (.int x1), .val (.int x2), .val (.int x3), .val (.int x4), .val (.int x5), .val (.int z1), .val (.int z2), .val (.int (1 : Int32)), .val (.ref b4), .val (.ref b18), .val (.ref b36), .val (.ref b47), .val (.ref b58), .val (.ref b66), .val (.ref b74), .val (.ref b82), .val (.ref b90), .val (.ref b98), .val (.int ((x0 &&& (2147483647 : Int32)) % (7 : Int32))), .val (.ref b36), .unset, .unset, .unset, .unset]) rfl k_) ?_
                      show own_Goes p e below (T103.setTop (mkF m 326 #[.val (.int x0), .val (.int x1), .val (.int x2), .val (.int x3), .val (.int x4), .val (.int x5), .val (.int z1), .val (.int z2), .val (.int (1 : Int32)), .val (.ref b4), .val (.ref b18), .val (.ref b36), .val (.ref b47), .val (.ref b58), .val (.ref b66), .val (.ref b74), .val (.ref b82), .val (.ref b90), .val (.ref b98), .val (.int ((x0 &&& (2147483647 : Int32)) % (7 : Int32))), .val (.ref b36), .unset, .unset, .unset, .unset] [])) _
                      refine own_go (fun t_ k_ => XS.iconst X103.here hx rfl (hb hby at_326) k_) ?_
                      show own_Goes p e below (T103.setTop (mkF m 327 #[.val (.int x0), .val (.int x1), .val (.int x2), .val (.int x3), .val (.int x4), .val (.int x5), .val (.int z1), .val (.int z2), .val (.int (1 : Int32)), .val (.ref b4), .val (.ref b18), .val (.ref b36), .val (.ref b47), .val (.ref b58), .val (.ref b66), .val (.ref b74), .val (.ref b82), .val (.ref b90), .val (.ref b98), .val (.int ((x0 &&& (2147483647 : Int32)) % (7 : Int32))), .val (.ref b36), .unset, .unset, .unset, .unset] [(.int (0 : Int32))])) _
                      refine own_go (fun t_ k_ => XS.istore X103.here hx rfl (hb hby at_327) rfl (l' := #[.val (.int x0), .val (.int x1), .val (.int x2), .val (.int x3), .val (.int x4), .val (.int x5), .val (.int z1), .val (.int z2), .val (.int (1 : Int32)), .val (.ref b4), .val (.ref b18), .val (.ref b36), .val (.ref b47), .val (.ref b58), .val (.ref b66), .val (.ref b74), .val (.ref b82), .val (.ref b90), .val (.ref b98), .val (.int ((x0 &&& (2147483647 : Int32)) % (7 : Int32))), .val (.ref b36), .val (.int (0 : Int32)), .unset, .unset, .unset]) rfl k_) ?_
                      show own_Goes p e below (T103.setTop (mkF m 329 #[.val (.int x0), .val (.int x1), .val (.int x2), .val (.int x3), .val (.int x4), .val (.int x5), .val (.int z1), .val (.int z2), .val (.int (1 : Int32)), .val (.ref b4), .val (.ref b18), .val (.ref b36), .val (.ref b47), .val (.ref b58), .val (.ref b66), .val (.ref b74), .val (.ref b82), .val (.ref b90), .val (.ref b98), .val (.int ((x0 &&& (2147483647 : Int32)) % (7 : Int32))), .val (.ref b36), .val (.int (0 : Int32)), .unset, .unset, .unset] [])) _
                      refine own_go (fun t_ k_ => XS.aload X103.here hx rfl (hb hby at_329) rfl rfl k_) ?_
                      show own_Goes p e below (T103.setTop (mkF m 331 #[.val (.int x0), .val (.int x1), .val (.int x2), .val (.int x3), .val (.int x4), .val (.int x5), .val (.int z1), .val (.int z2), .val (.int (1 : Int32)), .val (.ref b4), .val (.ref b18), .val (.ref b36), .val (.ref b47), .val (.ref b58), .val (.ref b66), .val (.ref b74), .val (.ref b82), .val (.ref b90), .val (.ref b98), .val (.int ((x0 &&& (2147483647 : Int32)) % (7 : Int32))), .val (.ref b36), .val (.int (0 : Int32)), .unset, .unset, .unset] [(.ref b74)])) _
                      refine own_go (fun t_ k_ => XS.aload X103.here hx rfl (hb hby at_331) rfl rfl k_) ?_
                      show own_Goes p e below (T103.setTop (mkF m 333 #[.val (.int x0), .val (.int x1), .val (.int x2), .val (.int x3), .val (.int x4), .val (.int x5), .val (.int z1), .val (.int z2), .val (.int (1 : Int32)), .val (.ref b4), .val (.ref b18), .val (.ref b36), .val (.ref b47), .val (.ref b58), .val (.ref b66), .val (.ref b74), .val (.ref b82), .val (.ref b90), .val (.ref b98), .val (.int ((x0 &&& (2147483647 : Int32)) % (7 : Int32))), .val (.ref b36), .val (.int (0 : Int32)), .unset, .unset, .unset] [(.ref b36), (.ref b74)])) _
                      have f186 := (f102.keep Kc103)
                      have f187 := (((((((A74.keep Kc79).ext E82).keep Kc87).ext E90).keep Kc95).ext E98).keep Kc103)
                      obtain ⟨cqiv188, kqiv188, qiv188a, qiv188b, qiv188c⟩ := isOf hZ103 e103 f187
                      obtain ⟨_, _, ⟨T189, L189, k189, n189⟩, -, X189, ⟨Lc189, hQ189, l189, y189, z189⟩, st189⟩ := X103.virtualBack hx (y := own_m12) (z := own_m12) hown103 (mvT hZ103 (hw _ (List.mem_of_getElem? (i := 80) rfl))) (mvT hZ103 (hw _ (List.mem_of_getElem? (i := 81) rfl))) (notFace_of_selects (args := #[]) (mvT hZ103 (hw _ (List.mem_of_getElem? (i := 83) rfl)))) (mvT hZ103 (hw _ (List.mem_of_getElem? (i := 83) rfl))) (mvT hZ103 (hw _ (List.mem_of_getElem? (i := 82) rfl))) (by decide) (backOf (W := 0) (own_eqO2 l Z a0 hw [] b74 b36 h103 n0 O104 f186) hZ103 (hw _ (List.mem_of_getElem? (i := 84) rfl)) (hw _ (List.mem_of_getElem? (i := 51) rfl)) (by decide) (by decide)) qiv188a qiv188c (g := (mkF m 333 #[.val (.int x0), .val (.int x1), .val (.int x2), .val (.int x3), .val (.int x4), .val (.int x5), .val (.int z1), .val (.int z2), .val (.int (1 : Int32)), .val (.ref b4), .val (.ref b18), .val (.ref b36), .val (.ref b47), .val (.ref b58), .val (.ref b66), .val (.ref b74), .val (.ref b82), .val (.ref b90), .val (.ref b98), .val (.int ((x0 &&& (2147483647 : Int32)) % (7 : Int32))), .val (.ref b36), .val (.int (0 : Int32)), .unset, .unset, .unset] [(.ref b36), (.ref b74)])) rfl (by rw [hml]; rfl) (Steps.refl _) (argsL := [(.ref b36)]) (rest := []) (lenOf own_pd_11 rfl) rfl (by show 2 * 0 + _ ≤ _; exact Nat.le_of_eq rfl) (hb hby at_333) (fun _ _ => ⟨rfl, e103, (by decide : 24 + 0 ≤ _), (by decide : 168 + 0 ≤ _)⟩)
                      dsimp only [Pt.U, Pt.locs, Pt.cells, Pt.slots] at X189 l189 y189 z189 st189 hQ189
                      subst l189 y189 z189
                      obtain ⟨Nc189, e189, rfl⟩ := hQ189
                      have N189 := Fr.app N103 Nc189
                      refine own_goS st189 ?_
                      show own_Goes p e below (T189.setTop (mkF m 336 #[.val (.int x0), .val (.int x1), .val (.int x2), .val (.int x3), .val (.int x4), .val (.int x5), .val (.int z1), .val (.int z2), .val (.int (1 : Int32)), .val (.ref b4), .val (.ref b18), .val (.ref b36), .val (.ref b47), .val (.ref b58), .val (.ref b66), .val (.ref b74), .val (.ref b82), .val (.ref b90), .val (.ref b98), .val (.int ((x0 &&& (2147483647 : Int32)) % (7 : Int32))), .val (.ref b36), .val (.int (0 : Int32)), .unset, .unset, .unset] [(.int (0 : Int32))])) _
                      refine own_go (fun t_ k_ => XS.istore X189.here hx rfl (hb hby at_336) rfl (l' := #[.val (.int x0), .val (.int x1), .val (.int x2), .val (.int x3), .val (.int x4), .val (.int x5), .val (.int z1), .val (.int z2), .val (.int (1 : Int32)), .val (.ref b4), .val (.ref b18), .val (.ref b36), .val (.ref b47), .val (.ref b58), .val (.ref b66), .val (.ref b74), .val (.ref b82), .val (.ref b90), .val (.ref b98), .val (.int ((x0 &&& (2147483647 : Int32)) % (7 : Int32))), .val (.ref b36), .val (.int (0 : Int32)), .val (.int (0 : Int32)), .unset, .unset]) rfl k_) ?_
                      show own_Goes p e below (T189.setTop (mkF m 338 #[.val (.int x0), .val (.int x1), .val (.int x2), .val (.int x3), .val (.int x4), .val (.int x5), .val (.int z1), .val (.int z2), .val (.int (1 : Int32)), .val (.ref b4), .val (.ref b18), .val (.ref b36), .val (.ref b47), .val (.ref b58), .val (.ref b66), .val (.ref b74), .val (.ref b82), .val (.ref b90), .val (.ref b98), .val (.int ((x0 &&& (2147483647 : Int32)) % (7 : Int32))), .val (.ref b36), .val (.int (0 : Int32)), .val (.int (0 : Int32)), .unset, .unset] [])) _
                      refine own_go (fun t_ k_ => XS.aload X189.here hx rfl (hb hby at_338) rfl rfl k_) ?_
                      show own_Goes p e below (T189.setTop (mkF m 340 #[.val (.int x0), .val (.int x1), .val (.int x2), .val (.int x3), .val (.int x4), .val (.int x5), .val (.int z1), .val (.int z2), .val (.int (1 : Int32)), .val (.ref b4), .val (.ref b18), .val (.ref b36), .val (.ref b47), .val (.ref b58), .val (.ref b66), .val (.ref b74), .val (.ref b82), .val (.ref b90), .val (.ref b98), .val (.int ((x0 &&& (2147483647 : Int32)) % (7 : Int32))), .val (.ref b36), .val (.int (0 : Int32)), .val (.int (0 : Int32)), .unset, .unset] [(.ref b82)])) _
                      refine own_go (fun t_ k_ => XS.aload X189.here hx rfl (hb hby at_340) rfl rfl k_) ?_
                      show own_Goes p e below (T189.setTop (mkF m 342 #[.val (.int x0), .val (.int x1), .val (.int x2), .val (.int x3), .val (.int x4), .val (.int x5), .val (.int z1), .val (.int z2), .val (.int (1 : Int32)), .val (.ref b4), .val (.ref b18), .val (.ref b36), .val (.ref b47), .val (.ref b58), .val (.ref b66), .val (.ref b74), .val (.ref b82), .val (.ref b90), .val (.ref b98), .val (.int ((x0 &&& (2147483647 : Int32)) % (7 : Int32))), .val (.ref b36), .val (.int (0 : Int32)), .val (.int (0 : Int32)), .unset, .unset] [(.ref b74), (.ref b82)])) _
                      have f190 := ((((c87_0.ext E90).keep Kc95 (ninS (own_ne (a := b82) (b := b90) (by omega)) nin0)).ext E98).keep Kc103 (ninS (own_ne (a := b82) (b := b98) (by omega)) nin0))
                      have f191 := ((((((c79_0.ext E82).keep Kc87 (ninS (own_ne (a := b74) (b := b82) (by omega)) nin0)).ext E90).keep Kc95 (ninS (own_ne (a := b74) (b := b90) (by omega)) nin0)).ext E98).keep Kc103 (ninS (own_ne (a := b74) (b := b98) (by omega)) nin0))
                      have f192 := (((((A82.keep Kc87).ext E90).keep Kc95).ext E98).keep Kc103)
                      obtain ⟨cqiv193, kqiv193, qiv193a, qiv193b, qiv193c⟩ := isOf hZ103 e189 f192
                      obtain ⟨_, _, ⟨T194, L194, k194, n194⟩, -, X194, ⟨Lc194, hQ194, l194, y194, z194⟩, st194⟩ := X189.virtualBack hx (y := own_m12) (z := own_m12) hown103 (mvT hZ103 (hw _ (List.mem_of_getElem? (i := 80) rfl))) (mvT hZ103 (hw _ (List.mem_of_getElem? (i := 81) rfl))) (notFace_of_selects (args := #[]) (mvT hZ103 (hw _ (List.mem_of_getElem? (i := 83) rfl)))) (mvT hZ103 (hw _ (List.mem_of_getElem? (i := 83) rfl))) (mvT hZ103 (hw _ (List.mem_of_getElem? (i := 82) rfl))) (by decide) (backOf (W := 0) (own_eqT l Z a0 hw [] b82 b74 b58 h103 n0 O104 f187 f190 f191) hZ103 (hw _ (List.mem_of_getElem? (i := 84) rfl)) (hw _ (List.mem_of_getElem? (i := 51) rfl)) (by decide) (by decide)) qiv193a qiv193c (g := (mkF m 342 #[.val (.int x0), .val (.int x1), .val (.int x2), .val (.int x3), .val (.int x4), .val (.int x5), .val (.int z1), .val (.int z2), .val (.int (1 : Int32)), .val (.ref b4), .val (.ref b18), .val (.ref b36), .val (.ref b47), .val (.ref b58), .val (.ref b66), .val (.ref b74), .val (.ref b82), .val (.ref b90), .val (.ref b98), .val (.int ((x0 &&& (2147483647 : Int32)) % (7 : Int32))), .val (.ref b36), .val (.int (0 : Int32)), .val (.int (0 : Int32)), .unset, .unset] [(.ref b74), (.ref b82)])) rfl (by rw [hml]; rfl) (Steps.refl _) (argsL := [(.ref b74)]) (rest := []) (lenOf own_pd_11 rfl) rfl (by show 2 * 0 + _ ≤ _; exact Nat.le_of_eq rfl) (hb hby at_342) (fun _ _ => ⟨rfl, e189, (by decide : 24 + 0 ≤ _), (by decide : 168 + 0 ≤ _)⟩)
                      dsimp only [Pt.U, Pt.locs, Pt.cells, Pt.slots] at X194 l194 y194 z194 st194 hQ194
                      subst l194 y194 z194
                      obtain ⟨Nc194, e194, rfl⟩ := hQ194
                      have N194 := Fr.app N189 Nc194
                      refine own_goS st194 ?_
                      show own_Goes p e below (T194.setTop (mkF m 345 #[.val (.int x0), .val (.int x1), .val (.int x2), .val (.int x3), .val (.int x4), .val (.int x5), .val (.int z1), .val (.int z2), .val (.int (1 : Int32)), .val (.ref b4), .val (.ref b18), .val (.ref b36), .val (.ref b47), .val (.ref b58), .val (.ref b66), .val (.ref b74), .val (.ref b82), .val (.ref b90), .val (.ref b98), .val (.int ((x0 &&& (2147483647 : Int32)) % (7 : Int32))), .val (.ref b36), .val (.int (0 : Int32)), .val (.int (0 : Int32)), .unset, .unset] [(.int (1 : Int32))])) _
                      refine own_go (fun t_ k_ => XS.istore X194.here hx rfl (hb hby at_345) rfl (l' := #[.val (.int x0), .val (.int x1), .val (.int x2), .val (.int x3), .val (.int x4), .val (.int x5), .val (.int z1), .val (.int z2), .val (.int (1 : Int32)), .val (.ref b4), .val (.ref b18), .val (.ref b36), .val (.ref b47), .val (.ref b58), .val (.ref b66), .val (.ref b74), .val (.ref b82), .val (.ref b90), .val (.ref b98), .val (.int ((x0 &&& (2147483647 : Int32)) % (7 : Int32))), .val (.ref b36), .val (.int (0 : Int32)), .val (.int (0 : Int32)), .val (.int (1 : Int32)), .unset]) rfl k_) ?_
                      show own_Goes p e below (T194.setTop (mkF m 347 #[.val (.int x0), .val (.int x1), .val (.int x2), .val (.int x3), .val (.int x4), .val (.int x5), .val (.int z1), .val (.int z2), .val (.int (1 : Int32)), .val (.ref b4), .val (.ref b18), .val (.ref b36), .val (.ref b47), .val (.ref b58), .val (.ref b66), .val (.ref b74), .val (.ref b82), .val (.ref b90), .val (.ref b98), .val (.int ((x0 &&& (2147483647 : Int32)) % (7 : Int32))), .val (.ref b36), .val (.int (0 : Int32)), .val (.int (0 : Int32)), .val (.int (1 : Int32)), .unset] [])) _
                      refine own_go (fun t_ k_ => XS.aload X194.here hx rfl (hb hby at_347) rfl rfl k_) ?_
                      show own_Goes p e below (T194.setTop (mkF m 349 #[.val (.int x0), .val (.int x1), .val (.int x2), .val (.int x3), .val (.int x4), .val (.int x5), .val (.int z1), .val (.int z2), .val (.int (1 : Int32)), .val (.ref b4), .val (.ref b18), .val (.ref b36), .val (.ref b47), .val (.ref b58), .val (.ref b66), .val (.ref b74), .val (.ref b82), .val (.ref b90), .val (.ref b98), .val (.int ((x0 &&& (2147483647 : Int32)) % (7 : Int32))), .val (.ref b36), .val (.int (0 : Int32)), .val (.int (0 : Int32)), .val (.int (1 : Int32)), .unset] [(.ref b90)])) _
                      refine own_go (fun t_ k_ => XS.aload X194.here hx rfl (hb hby at_349) rfl rfl k_) ?_
                      show own_Goes p e below (T194.setTop (mkF m 351 #[.val (.int x0), .val (.int x1), .val (.int x2), .val (.int x3), .val (.int x4), .val (.int x5), .val (.int z1), .val (.int z2), .val (.int (1 : Int32)), .val (.ref b4), .val (.ref b18), .val (.ref b36), .val (.ref b47), .val (.ref b58), .val (.ref b66), .val (.ref b74), .val (.ref b82), .val (.ref b90), .val (.ref b98), .val (.int ((x0 &&& (2147483647 : Int32)) % (7 : Int32))), .val (.ref b36), .val (.int (0 : Int32)), .val (.int (0 : Int32)), .val (.int (1 : Int32)), .unset] [(.ref b74), (.ref b90)])) _
                      have f195 := ((c95_0.ext E98).keep Kc103 (ninS (own_ne (a := b90) (b := b98) (by omega)) nin0))
                      have f196 := (((A90.keep Kc95).ext E98).keep Kc103)
                      obtain ⟨cqiv197, kqiv197, qiv197a, qiv197b, qiv197c⟩ := isOf hZ103 e194 f196
                      obtain ⟨_, _, ⟨T198, L198, k198, n198⟩, -, X198, ⟨Lc198, hQ198, l198, y198, z198⟩, st198⟩ := X194.virtualBack hx (y := own_m12) (z := own_m12) hown103 (mvT hZ103 (hw _ (List.mem_of_getElem? (i := 80) rfl))) (mvT hZ103 (hw _ (List.mem_of_getElem? (i := 81) rfl))) (notFace_of_selects (args := #[]) (mvT hZ103 (hw _ (List.mem_of_getElem? (i := 83) rfl)))) (mvT hZ103 (hw _ (List.mem_of_getElem? (i := 83) rfl))) (mvT hZ103 (hw _ (List.mem_of_getElem? (i := 82) rfl))) (by decide) (backOf (W := 0) (own_eqF l Z a0 hw [] b90 b74 b66 b58 h103 n0 O104 f187 f195 f191 (show ¬ b58 = b66 from (by omega))) hZ103 (hw _ (List.mem_of_getElem? (i := 84) rfl)) (hw _ (List.mem_of_getElem? (i := 51) rfl)) (by decide) (by decide)) qiv197a qiv197c (g := (mkF m 351 #[.val (.int x0), .val (.int x1), .val (.int x2), .val (.int x3), .val (.int x4), .val (.int x5), .val (.int z1), .val (.int z2), .val (.int (1 : Int32)), .val (.ref b4), .val (.ref b18), .val (.ref b36), .val (.ref b47), .val (.ref b58), .val (.ref b66), .val (.ref b74), .val (.ref b82), .val (.ref b90), .val (.ref b98), .val (.int ((x0 &&& (2147483647 : Int32)) % (7 : Int32))), .val (.ref b36), .val (.int (0 : Int32)), .val (.int (0 : Int32)), .val (.int (1 : Int32)), .unset] [(.ref b74), (.ref b90)])) rfl (by rw [hml]; rfl) (Steps.refl _) (argsL := [(.ref b74)]) (rest := []) (lenOf own_pd_11 rfl) rfl (by show 2 * 0 + _ ≤ _; exact Nat.le_of_eq rfl) (hb hby at_351) (fun _ _ => ⟨rfl, e194, (by decide : 24 + 0 ≤ _), (by decide : 168 + 0 ≤ _)⟩)
                      dsimp only [Pt.U, Pt.locs, Pt.cells, Pt.slots] at X198 l198 y198 z198 st198 hQ198
                      subst l198 y198 z198
                      obtain ⟨Nc198, e198, rfl⟩ := hQ198
                      have N198 := Fr.app N194 Nc198
                      refine own_goS st198 ?_
                      show own_Goes p e below (T198.setTop (mkF m 354 #[.val (.int x0), .val (.int x1), .val (.int x2), .val (.int x3), .val (.int x4), .val (.int x5), .val (.int z1), .val (.int z2), .val (.int (1 : Int32)), .val (.ref b4), .val (.ref b18), .val (.ref b36), .val (.ref b47), .val (.ref b58), .val (.ref b66), .val (.ref b74), .val (.ref b82), .val (.ref b90), .val (.ref b98), .val (.int ((x0 &&& (2147483647 : Int32)) % (7 : Int32))), .val (.ref b36), .val (.int (0 : Int32)), .val (.int (0 : Int32)), .val (.int (1 : Int32)), .unset] [(.int (0 : Int32))])) _
                      refine own_go (fun t_ k_ => XS.istore X198.here hx rfl (hb hby at_354) rfl (l' := #[.val (.int x0), .val (.int x1), .val (.int x2), .val (.int x3), .val (.int x4), .val (.int x5), .val (.int z1), .val (.int z2), .val (.int (1 : Int32)), .val (.ref b4), .val (.ref b18), .val (.ref b36), .val (.ref b47), .val (.ref b58), .val (.ref b66), .val (.ref b74), .val (.ref b82), .val (.ref b90), .val (.ref b98), .val (.int ((x0 &&& (2147483647 : Int32)) % (7 : Int32))), .val (.ref b36), .val (.int (0 : Int32)), .val (.int (0 : Int32)), .val (.int (1 : Int32)), .val (.int (0 : Int32))]) rfl k_) ?_
                      show own_Goes p e below (T198.setTop (mkF m 356 #[.val (.int x0), .val (.int x1), .val (.int x2), .val (.int x3), .val (.int x4), .val (.int x5), .val (.int z1), .val (.int z2), .val (.int (1 : Int32)), .val (.ref b4), .val (.ref b18), .val (.ref b36), .val (.ref b47), .val (.ref b58), .val (.ref b66), .val (.ref b74), .val (.ref b82), .val (.ref b90), .val (.ref b98), .val (.int ((x0 &&& (2147483647 : Int32)) % (7 : Int32))), .val (.ref b36), .val (.int (0 : Int32)), .val (.int (0 : Int32)), .val (.int (1 : Int32)), .val (.int (0 : Int32))] [])) _
                      refine own_go (fun t_ k_ => XS.iload X198.here hx rfl (hb hby at_356) rfl k_) ?_
                      show own_Goes p e below (T198.setTop (mkF m 358 #[.val (.int x0), .val (.int x1), .val (.int x2), .val (.int x3), .val (.int x4), .val (.int x5), .val (.int z1), .val (.int z2), .val (.int (1 : Int32)), .val (.ref b4), .val (.ref b18), .val (.ref b36), .val (.ref b47), .val (.ref b58), .val (.ref b66), .val (.ref b74), .val (.ref b82), .val (.ref b90), .val (.ref b98), .val (.int ((x0 &&& (2147483647 : Int32)) % (7 : Int32))), .val (.ref b36), .val (.int (0 : Int32)), .val (.int (0 : Int32)), .val (.int (1 : Int32)), .val (.int (0 : Int32))] [(.int (0 : Int32))])) _
                      refine own_go (fun t_ k_ => XS.iload X198.here hx rfl (hb hby at_358) rfl k_) ?_
                      show own_Goes p e below (T198.setTop (mkF m 360 #[.val (.int x0), .val (.int x1), .val (.int x2), .val (.int x3), .val (.int x4), .val (.int x5), .val (.int z1), .val (.int z2), .val (.int (1 : Int32)), .val (.ref b4), .val (.ref b18), .val (.ref b36), .val (.ref b47), .val (.ref b58), .val (.ref b66), .val (.ref b74), .val (.ref b82), .val (.ref b90), .val (.ref b98), .val (.int ((x0 &&& (2147483647 : Int32)) % (7 : Int32))), .val (.ref b36), .val (.int (0 : Int32)), .val (.int (0 : Int32)), .val (.int (1 : Int32)), .val (.int (0 : Int32))] [(.int (0 : Int32)), (.int (0 : Int32))])) _
                      refine own_go (fun t_ k_ => XS.icmpNo X198.here hx rfl (hb hby at_360) rfl (teq (show ((0 : Int32) = (0 : Int32)) from by decide)).2 k_) ?_
                      show own_Goes p e below (T198.setTop (mkF m 363 #[.val (.int x0), .val (.int x1), .val (.int x2), .val (.int x3), .val (.int x4), .val (.int x5), .val (.int z1), .val (.int z2), .val (.int (1 : Int32)), .val (.ref b4), .val (.ref b18), .val (.ref b36), .val (.ref b47), .val (.ref b58), .val (.ref b66), .val (.ref b74), .val (.ref b82), .val (.ref b90), .val (.ref b98), .val (.int ((x0 &&& (2147483647 : Int32)) % (7 : Int32))), .val (.ref b36), .val (.int (0 : Int32)), .val (.int (0 : Int32)), .val (.int (1 : Int32)), .val (.int (0 : Int32))] [])) _
                      refine own_go (fun t_ k_ => XS.iload X198.here hx rfl (hb hby at_363) rfl k_) ?_
                      show own_Goes p e below (T198.setTop (mkF m 365 #[.val (.int x0), .val (.int x1), .val (.int x2), .val (.int x3), .val (.int x4), .val (.int x5), .val (.int z1), .val (.int z2), .val (.int (1 : Int32)), .val (.ref b4), .val (.ref b18), .val (.ref b36), .val (.ref b47), .val (.ref b58), .val (.ref b66), .val (.ref b74), .val (.ref b82), .val (.ref b90), .val (.ref b98), .val (.int ((x0 &&& (2147483647 : Int32)) % (7 : Int32))), .val (.ref b36), .val (.int (0 : Int32)), .val (.int (0 : Int32)), .val (.int (1 : Int32)), .val (.int (0 : Int32))] [(.int (1 : Int32))])) _
                      refine own_go (fun t_ k_ => XS.ifNo X198.here hx rfl (hb hby at_365) rfl ((if0 _ _).trans (feq (show ¬ ((1 : Int32) = (0 : Int32)) from by decide)).1) k_) ?_
                      show own_Goes p e below (T198.setTop (mkF m 368 #[.val (.int x0), .val (.int x1), .val (.int x2), .val (.int x3), .val (.int x4), .val (.int x5), .val (.int z1), .val (.int z2), .val (.int (1 : Int32)), .val (.ref b4), .val (.ref b18), .val (.ref b36), .val (.ref b47), .val (.ref b58), .val (.ref b66), .val (.ref b74), .val (.ref b82), .val (.ref b90), .val (.ref b98), .val (.int ((x0 &&& (2147483647 : Int32)) % (7 : Int32))), .val (.ref b36), .val (.int (0 : Int32)), .val (.int (0 : Int32)), .val (.int (1 : Int32)), .val (.int (0 : Int32))] [])) _
                      refine own_go (fun t_ k_ => XS.iload X198.here hx rfl (hb hby at_368) rfl k_) ?_
                      show own_Goes p e below (T198.setTop (mkF m 370 #[.val (.int x0), .val (.int x1), .val (.int x2), .val (.int x3), .val (.int x4), .val (.int x5), .val (.int z1), .val (.int z2), .val (.int (1 : Int32)), .val (.ref b4), .val (.ref b18), .val (.ref b36), .val (.ref b47), .val (.ref b58), .val (.ref b66), .val (.ref b74), .val (.ref b82), .val (.ref b90), .val (.ref b98), .val (.int ((x0 &&& (2147483647 : Int32)) % (7 : Int32))), .val (.ref b36), .val (.int (0 : Int32)), .val (.int (0 : Int32)), .val (.int (1 : Int32)), .val (.int (0 : Int32))] [(.int (0 : Int32))])) _
                      refine own_go (fun t_ k_ => XS.ifNo X198.here hx rfl (hb hby at_370) rfl ((if0 _ _).trans (teq (show ((0 : Int32) = (0 : Int32)) from by decide)).2) k_) ?_
                      show own_Goes p e below (T198.setTop (mkF m 373 #[.val (.int x0), .val (.int x1), .val (.int x2), .val (.int x3), .val (.int x4), .val (.int x5), .val (.int z1), .val (.int z2), .val (.int (1 : Int32)), .val (.ref b4), .val (.ref b18), .val (.ref b36), .val (.ref b47), .val (.ref b58), .val (.ref b66), .val (.ref b74), .val (.ref b82), .val (.ref b90), .val (.ref b98), .val (.int ((x0 &&& (2147483647 : Int32)) % (7 : Int32))), .val (.ref b36), .val (.int (0 : Int32)), .val (.int (0 : Int32)), .val (.int (1 : Int32)), .val (.int (0 : Int32))] [])) _
                      refine own_go (fun t_ k_ => XS.iconst X198.here hx rfl (hb hby at_373) k_) ?_
                      show own_Goes p e below (T198.setTop (mkF m 374 #[.val (.int x0), .val (.int x1), .val (.int x2), .val (.int x3), .val (.int x4), .val (.int x5), .val (.int z1), .val (.int z2), .val (.int (1 : Int32)), .val (.ref b4), .val (.ref b18), .val (.ref b36), .val (.ref b47), .val (.ref b58), .val (.ref b66), .val (.ref b74), .val (.ref b82), .val (.ref b90), .val (.ref b98), .val (.int ((x0 &&& (2147483647 : Int32)) % (7 : Int32))), .val (.ref b36), .val (.int (0 : Int32)), .val (.int (0 : Int32)), .val (.int (1 : Int32)), .val (.int (0 : Int32))] [(.int (1 : Int32))])) _
                      refine own_go (fun t_ k_ => XS.goto X198.here hx rfl (pc0 := 374) (pc' := 378) rfl (hb hby at_374) (by decide) (by decide) k_) ?_
                      show own_Goes p e below (T198.setTop (mkF m 378 #[.val (.int x0), .val (.int x1), .val (.int x2), .val (.int x3), .val (.int x4), .val (.int x5), .val (.int z1), .val (.int z2), .val (.int (1 : Int32)), .val (.ref b4), .val (.ref b18), .val (.ref b36), .val (.ref b47), .val (.ref b58), .val (.ref b66), .val (.ref b74), .val (.ref b82), .val (.ref b90), .val (.ref b98), .val (.int ((x0 &&& (2147483647 : Int32)) % (7 : Int32))), .val (.ref b36), .val (.int (0 : Int32)), .val (.int (0 : Int32)), .val (.int (1 : Int32)), .val (.int (0 : Int32))] [(.int (1 : Int32))])) _
                      refine own_endW X198 hS103 (show _ ≤ T198.heap.size by rw [e198]; exact hk103) (v := (some (.int (1 : Int32)))) (fun h => by rw [hret] at h; cases h) hlk (by decide) (by decide) ?_ (fun fs hr => retOut X198 hx hret rfl (Or.inl ⟨rfl, Or.inr (Or.inl rfl), _, rfl⟩) (hb hby at_378) hr)
                      show Q_rm0 Z x0 x1 x2 x3 x4 x5 gz h0 n0 _ T198.heap _
                      rw [e198]
                      exact ⟨N198, trivial, rfl⟩
        · show own_Goes p e below (T18.setTop (mkF m 77 #[.val (.int x0), .val (.int x1), .val (.int x2), .val (.int x3), .val (.int x4), .val (.int x5), .val (.int z1), .val (.int z2), .val (.int (0 : Int32)), .val (.ref b4), .val (.ref b18), .unset, .unset, .unset, .unset, .unset, .unset, .unset, .unset, .unset, .unset, .unset, .unset, .unset, .unset] [(.int (0 : Int32)), (.int (0 : Int32)), (.ref b18)])) _
          refine own_go (fun t_ k_ => XS.ifYes X18.here hx rfl (pc0 := 77) (pc' := 87) rfl (hb hby at_77) rfl ((if0 _ _).trans (teq (show ((0 : Int32) = (0 : Int32)) from by decide)).1) (by decide) (by decide) k_) ?_
          show own_Goes p e below (T18.setTop (mkF m 87 #[.val (.int x0), .val (.int x1), .val (.int x2), .val (.int x3), .val (.int x4), .val (.int x5), .val (.int z1), .val (.int z2), .val (.int (0 : Int32)), .val (.ref b4), .val (.ref b18), .unset, .unset, .unset, .unset, .unset, .unset, .unset, .unset, .unset, .unset, .unset, .unset, .unset, .unset] [(.int (0 : Int32)), (.ref b18)])) _
          refine own_go (fun t_ k_ => XS.iloadN X18.here hx rfl (hb hby at_87) rfl k_) ?_
          show own_Goes p e below (T18.setTop (mkF m 88 #[.val (.int x0), .val (.int x1), .val (.int x2), .val (.int x3), .val (.int x4), .val (.int x5), .val (.int z1), .val (.int z2), .val (.int (0 : Int32)), .val (.ref b4), .val (.ref b18), .unset, .unset, .unset, .unset, .unset, .unset, .unset, .unset, .unset, .unset, .unset, .unset, .unset, .unset] [(.int x3), (.int (0 : Int32)), (.ref b18)])) _
          refine own_go (fun t_ k_ => XS.sipush X18.here hx rfl (hb hby at_88) k_) ?_
          show own_Goes p e below (T18.setTop (mkF m 91 #[.val (.int x0), .val (.int x1), .val (.int x2), .val (.int x3), .val (.int x4), .val (.int x5), .val (.int z1), .val (.int z2), .val (.int (0 : Int32)), .val (.ref b4), .val (.ref b18), .unset, .unset, .unset, .unset, .unset, .unset, .unset, .unset, .unset, .unset, .unset, .unset, .unset, .unset] [(.int (255 : Int32)), (.int x3), (.int (0 : Int32)), (.ref b18)])) _
          refine own_go (fun t_ k_ => XS.iand X18.here hx rfl (hb hby at_91) rfl k_) ?_
          show own_Goes p e below (T18.setTop (mkF m 92 #[.val (.int x0), .val (.int x1), .val (.int x2), .val (.int x3), .val (.int x4), .val (.int x5), .val (.int z1), .val (.int z2), .val (.int (0 : Int32)), .val (.ref b4), .val (.ref b18), .unset, .unset, .unset, .unset, .unset, .unset, .unset, .unset, .unset, .unset, .unset, .unset, .unset, .unset] [(.int (x3 &&& (255 : Int32))), (.int (0 : Int32)), (.ref b18)])) _
          refine own_go (fun t_ k_ => XS.i2c X18.here hx rfl (hb hby at_92) rfl k_) ?_
          show own_Goes p e below (T18.setTop (mkF m 93 #[.val (.int x0), .val (.int x1), .val (.int x2), .val (.int x3), .val (.int x4), .val (.int x5), .val (.int z1), .val (.int z2), .val (.int (0 : Int32)), .val (.ref b4), .val (.ref b18), .unset, .unset, .unset, .unset, .unset, .unset, .unset, .unset, .unset, .unset, .unset, .unset, .unset, .unset] [(.int ((x3 &&& (255 : Int32)).toUInt32.toUInt16.toUInt32.toInt32)), (.int (0 : Int32)), (.ref b18)])) _
          rw [i2c_mask]
          show own_Goes p e below (T18.setTop (mkF m 93 #[.val (.int x0), .val (.int x1), .val (.int x2), .val (.int x3), .val (.int x4), .val (.int x5), .val (.int z1), .val (.int z2), .val (.int (0 : Int32)), .val (.ref b4), .val (.ref b18), .unset, .unset, .unset, .unset, .unset, .unset, .unset, .unset, .unset, .unset, .unset, .unset, .unset, .unset] [(.int (x3 &&& (255 : Int32))), (.int (0 : Int32)), (.ref b18)])) _
          obtain ⟨clu199, Aru199, qu199, Szu199, Ngu199, Hsu199, Gsu199⟩ := id V18
          have inu199 : ¬ ((0 : Int32) < 0 ∨ clu199.slots.size ≤ ((0 : Int32)).toNatClampNeg) := inb_of Szu199 ⟨by decide, by decide⟩
          obtain ⟨T200, h200, X200, e200, W200, st200⟩ := stC X18 hx hZ e18 Aru199 (j := (0 : Int32)) inu199 (g := (mkF m 93 #[.val (.int x0), .val (.int x1), .val (.int x2), .val (.int x3), .val (.int x4), .val (.int x5), .val (.int z1), .val (.int z2), .val (.int (0 : Int32)), .val (.ref b4), .val (.ref b18), .unset, .unset, .unset, .unset, .unset, .unset, .unset, .unset, .unset, .unset, .unset, .unset, .unset, .unset] [(.int (x3 &&& (255 : Int32))), (.int (0 : Int32)), (.ref b18)])) rfl rfl (hb hby at_93)
          refine own_go st200 ?_
          have V200 := Arv.set Aru199 qu199 Szu199 Ngu199 Hsu199 Gsu199 (fits_nar_char _) W200 0 rfl (Nat.le_of_ble_eq_true rfl)
          rw [own_narM] at V200
          have O201 := O19.wr W200 (show n0 ≤ b18 by omega)
          have sz202 : h200.size = h18.size := Wr.size W200
          have hk203 := Nat.le_trans hk21 (Nat.le_of_eq (Wr.size W200).symm)
          have N200 := Fr.snoc X200 N14 (show n0 ≤ b18 by omega)
          have V200 : Arv Z h200 b18 k18 .char (2 : Int32) [(.int (x3 &&& (255 : Int32))), (.int (0 : Int32))] (.int (0 : Int32)) := V200
          show own_Goes p e below (T200.setTop (mkF m 94 #[.val (.int x0), .val (.int x1), .val (.int x2), .val (.int x3), .val (.int x4), .val (.int x5), .val (.int z1), .val (.int z2), .val (.int (0 : Int32)), .val (.ref b4), .val (.ref b18), .unset, .unset, .unset, .unset, .unset, .unset, .unset, .unset, .unset, .unset, .unset, .unset, .unset, .unset] [])) _
          refine own_go (fun t_ k_ => XS.aload X200.here hx rfl (hb hby at_94) rfl rfl k_) ?_
          show own_Goes p e below (T200.setTop (mkF m 96 #[.val (.int x0), .val (.int x1), .val (.int x2), .val (.int x3), .val (.int x4), .val (.int x5), .val (.int z1), .val (.int z2), .val (.int (0 : Int32)), .val (.ref b4), .val (.ref b18), .unset, .unset, .unset, .unset, .unset, .unset, .unset, .unset, .unset, .unset, .unset, .unset, .unset, .unset] [(.ref b18)])) _
          refine own_go (fun t_ k_ => XS.iconst X200.here hx rfl (hb hby at_96) k_) ?_
          show own_Goes p e below (T200.setTop (mkF m 97 #[.val (.int x0), .val (.int x1), .val (.int x2), .val (.int x3), .val (.int x4), .val (.int x5), .val (.int z1), .val (.int z2), .val (.int (0 : Int32)), .val (.ref b4), .val (.ref b18), .unset, .unset, .unset, .unset, .unset, .unset, .unset, .unset, .unset, .unset, .unset, .unset, .unset, .unset] [(.int (1 : Int32)), (.ref b18)])) _
          refine own_go (fun t_ k_ => XS.iload X200.here hx rfl (hb hby at_97) rfl k_) ?_
          show own_Goes p e below (T200.setTop (mkF m 99 #[.val (.int x0), .val (.int x1), .val (.int x2), .val (.int x3), .val (.int x4), .val (.int x5), .val (.int z1), .val (.int z2), .val (.int (0 : Int32)), .val (.ref b4), .val (.ref b18), .unset, .unset, .unset, .unset, .unset, .unset, .unset, .unset, .unset, .unset, .unset, .unset, .unset, .unset] [(.int (0 : Int32)), (.int (1 : Int32)), (.ref b18)])) _
          refine own_go (fun t_ k_ => XS.ifYes X200.here hx rfl (pc0 := 99) (pc' := 109) rfl (hb hby at_99) rfl ((if0 _ _).trans (teq (show ((0 : Int32) = (0 : Int32)) from by decide)).1) (by decide) (by decide) k_) ?_
          show own_Goes p e below (T200.setTop (mkF m 109 #[.val (.int x0), .val (.int x1), .val (.int x2), .val (.int x3), .val (.int x4), .val (.int x5), .val (.int z1), .val (.int z2), .val (.int (0 : Int32)), .val (.ref b4), .val (.ref b18), .unset, .unset, .unset, .unset, .unset, .unset, .unset, .unset, .unset, .unset, .unset, .unset, .unset, .unset] [(.int (1 : Int32)), (.ref b18)])) _
          refine own_go (fun t_ k_ => XS.iload X200.here hx rfl (hb hby at_109) rfl k_) ?_
          show own_Goes p e below (T200.setTop (mkF m 111 #[.val (.int x0), .val (.int x1), .val (.int x2), .val (.int x3), .val (.int x4), .val (.int x5), .val (.int z1), .val (.int z2), .val (.int (0 : Int32)), .val (.ref b4), .val (.ref b18), .unset, .unset, .unset, .unset, .unset, .unset, .unset, .unset, .unset, .unset, .unset, .unset, .unset, .unset] [(.int x4), (.int (1 : Int32)), (.ref b18)])) _
          refine own_go (fun t_ k_ => XS.sipush X200.here hx rfl (hb hby at_111) k_) ?_
          show own_Goes p e below (T200.setTop (mkF m 114 #[.val (.int x0), .val (.int x1), .val (.int x2), .val (.int x3), .val (.int x4), .val (.int x5), .val (.int z1), .val (.int z2), .val (.int (0 : Int32)), .val (.ref b4), .val (.ref b18), .unset, .unset, .unset, .unset, .unset, .unset, .unset, .unset, .unset, .unset, .unset, .unset, .unset, .unset] [(.int (255 : Int32)), (.int x4), (.int (1 : Int32)), (.ref b18)])) _
          refine own_go (fun t_ k_ => XS.iand X200.here hx rfl (hb hby at_114) rfl k_) ?_
          show own_Goes p e below (T200.setTop (mkF m 115 #[.val (.int x0), .val (.int x1), .val (.int x2), .val (.int x3), .val (.int x4), .val (.int x5), .val (.int z1), .val (.int z2), .val (.int (0 : Int32)), .val (.ref b4), .val (.ref b18), .unset, .unset, .unset, .unset, .unset, .unset, .unset, .unset, .unset, .unset, .unset, .unset, .unset, .unset] [(.int (x4 &&& (255 : Int32))), (.int (1 : Int32)), (.ref b18)])) _
          refine own_go (fun t_ k_ => XS.i2c X200.here hx rfl (hb hby at_115) rfl k_) ?_
          show own_Goes p e below (T200.setTop (mkF m 116 #[.val (.int x0), .val (.int x1), .val (.int x2), .val (.int x3), .val (.int x4), .val (.int x5), .val (.int z1), .val (.int z2), .val (.int (0 : Int32)), .val (.ref b4), .val (.ref b18), .unset, .unset, .unset, .unset, .unset, .unset, .unset, .unset, .unset, .unset, .unset, .unset, .unset, .unset] [(.int ((x4 &&& (255 : Int32)).toUInt32.toUInt16.toUInt32.toInt32)), (.int (1 : Int32)), (.ref b18)])) _
          rw [i2c_mask]
          show own_Goes p e below (T200.setTop (mkF m 116 #[.val (.int x0), .val (.int x1), .val (.int x2), .val (.int x3), .val (.int x4), .val (.int x5), .val (.int z1), .val (.int z2), .val (.int (0 : Int32)), .val (.ref b4), .val (.ref b18), .unset, .unset, .unset, .unset, .unset, .unset, .unset, .unset, .unset, .unset, .unset, .unset, .unset, .unset] [(.int (x4 &&& (255 : Int32))), (.int (1 : Int32)), (.ref b18)])) _
          obtain ⟨clu204, Aru204, qu204, Szu204, Ngu204, Hsu204, Gsu204⟩ := id V200
          have inu204 : ¬ ((1 : Int32) < 0 ∨ clu204.slots.size ≤ ((1 : Int32)).toNatClampNeg) := inb_of Szu204 ⟨by decide, by decide⟩
          obtain ⟨T205, h205, X205, e205, W205, st205⟩ := stC X200 hx hZ e200 Aru204 (j := (1 : Int32)) inu204 (g := (mkF m 116 #[.val (.int x0), .val (.int x1), .val (.int x2), .val (.int x3), .val (.int x4), .val (.int x5), .val (.int z1), .val (.int z2), .val (.int (0 : Int32)), .val (.ref b4), .val (.ref b18), .unset, .unset, .unset, .unset, .unset, .unset, .unset, .unset, .unset, .unset, .unset, .unset, .unset, .unset] [(.int (x4 &&& (255 : Int32))), (.int (1 : Int32)), (.ref b18)])) rfl rfl (hb hby at_116)
          refine own_go st205 ?_
          have V205 := Arv.set Aru204 qu204 Szu204 Ngu204 Hsu204 Gsu204 (fits_nar_char _) W205 1 rfl (Nat.le_of_ble_eq_true rfl)
          rw [own_narM] at V205
          have O206 := O201.wr W205 (show n0 ≤ b18 by omega)
          have sz207 : h205.size = h200.size := Wr.size W205
          have hk208 := Nat.le_trans hk203 (Nat.le_of_eq (Wr.size W205).symm)
          have N205 := Fr.snoc X205 N200 (show n0 ≤ b18 by omega)
          have V205 : Arv Z h205 b18 k18 .char (2 : Int32) [(.int (x3 &&& (255 : Int32))), (.int (x4 &&& (255 : Int32)))] (.int (0 : Int32)) := V205
          show own_Goes p e below (T205.setTop (mkF m 117 #[.val (.int x0), .val (.int x1), .val (.int x2), .val (.int x3), .val (.int x4), .val (.int x5), .val (.int z1), .val (.int z2), .val (.int (0 : Int32)), .val (.ref b4), .val (.ref b18), .unset, .unset, .unset, .unset, .unset, .unset, .unset, .unset, .unset, .unset, .unset, .unset, .unset, .unset] [])) _
          obtain ⟨T209, h209, X209, e209, E209, A209, D209, -, st209⟩ := newO X205 hx hZ hown (hw _ (List.mem_of_getElem? (i := 1) rfl)) (hw _ (List.mem_of_getElem? (i := 2) rfl)) (hw _ (List.mem_of_getElem? (i := 3) rfl)) e205 (g := (mkF m 117 #[.val (.int x0), .val (.int x1), .val (.int x2), .val (.int x3), .val (.int x4), .val (.int x5), .val (.int z1), .val (.int z2), .val (.int (0 : Int32)), .val (.ref b4), .val (.ref b18), .unset, .unset, .unset, .unset, .unset, .unset, .unset, .unset, .unset, .unset, .unset, .unset, .unset, .unset] [])) rfl (hb hby at_117) (by decide) (by decide)
          obtain ⟨b209, g209⟩ : ∃ z, z = h205.size := ⟨_, rfl⟩
          rw [← g209] at A209 D209 st209
          refine own_go st209 ?_
          have O210 := O206.ext E209
          have sz211 : h205.size ≤ h209.size := E209.1
          have hk212 := Nat.le_trans hk208 E209.1
          have l209 : b209 < h209.size := A209.lt
          have F209_coder : Fld Z h209 b209 "java/lang/String" "coder" "B" (.int (0 : Int32)) := D209 (Or.inr (hw _ (List.mem_of_getElem? (i := 27) rfl))) (ty := .byte) (by decide)
          have F209_value : Fld Z h209 b209 "java/lang/String" "value" "[B" .null := D209 (Or.inr (hw _ (List.mem_of_getElem? (i := 29) rfl))) (ty := (.array .byte)) (by decide)
          show own_Goes p e below (T209.setTop (mkF m 120 #[.val (.int x0), .val (.int x1), .val (.int x2), .val (.int x3), .val (.int x4), .val (.int x5), .val (.int z1), .val (.int z2), .val (.int (0 : Int32)), .val (.ref b4), .val (.ref b18), .unset, .unset, .unset, .unset, .unset, .unset, .unset, .unset, .unset, .unset, .unset, .unset, .unset, .unset] [(.ref b209)])) _
          refine own_go (fun t_ k_ => XS.dup X209.here hx rfl (hb hby at_120) rfl rfl k_) ?_
          show own_Goes p e below (T209.setTop (mkF m 121 #[.val (.int x0), .val (.int x1), .val (.int x2), .val (.int x3), .val (.int x4), .val (.int x5), .val (.int z1), .val (.int z2), .val (.int (0 : Int32)), .val (.ref b4), .val (.ref b18), .unset, .unset, .unset, .unset, .unset, .unset, .unset, .unset, .unset, .unset, .unset, .unset, .unset, .unset] [(.ref b209), (.ref b209)])) _
          refine own_go (fun t_ k_ => XS.aload X209.here hx rfl (hb hby at_121) rfl rfl k_) ?_
          show own_Goes p e below (T209.setTop (mkF m 123 #[.val (.int x0), .val (.int x1), .val (.int x2), .val (.int x3), .val (.int x4), .val (.int x5), .val (.int z1), .val (.int z2), .val (.int (0 : Int32)), .val (.ref b4), .val (.ref b18), .unset, .unset, .unset, .unset, .unset, .unset, .unset, .unset, .unset, .unset, .unset, .unset, .unset, .unset] [(.ref b4), (.ref b209), (.ref b209)])) _
          have f213 := ((((V14.ext E18).other W200 (own_ne (a := b4) (b := b18) (by omega))).other W205 (own_ne (a := b4) (b := b18) (by omega))).ext E209)
          have q214 := G0.ext O210.2
          have hp215 : ∀ c_ ∈ ([(x1 &&& (255 : Int32)), (x2 &&& (255 : Int32))] : List Int32), ¬ c_ < 0 ∧ ¬ (255 : Int32) < c_ := by
            intro c_ hc_
            simp only [List.mem_cons, List.not_mem_nil, or_false] at hc_
            rcases hc_ with rfl | rfl
            · exact (own_ch255 _)
            · exact (own_ch255 _)
          obtain ⟨_, _, ⟨T216, L216, k216, n216⟩, -, X216, ⟨Lc216, hQ216, l216, y216, z216⟩, st216⟩ := X209.specialBack hx (y := (⟨"java/lang/String", "<init>", "([C)V"⟩ : MethodName)) rfl hown (mvT hZ (hw _ (List.mem_of_getElem? (i := 4) rfl))) (mvT hZ (hw _ (List.mem_of_getElem? (i := 5) rfl))) (mvT hZ (hw _ (List.mem_of_getElem? (i := 6) rfl))) (by decide) (StrChars.Road.backV (W := 1) hZ (own_wV hw) (kI := 4) (hw _ (List.mem_of_getElem? (i := 2) rfl)) (cs := ([(x1 &&& (255 : Int32)), (x2 &&& (255 : Int32))] : List Int32)) (bs := ([(x1 &&& (255 : Int32)), (x2 &&& (255 : Int32))] : List Int32).map (fun c => c.toInt8.toInt32)) (n := 2) (show n0 ≤ b209 by omega) (show n0 ≤ h209.size by omega) A209 F209_value F209_coder f213 q214 G1 rfl rfl (by decide) (by decide) hp215 rfl (by decide) (by decide)) (g := (mkF m 123 #[.val (.int x0), .val (.int x1), .val (.int x2), .val (.int x3), .val (.int x4), .val (.int x5), .val (.int z1), .val (.int z2), .val (.int (0 : Int32)), .val (.ref b4), .val (.ref b18), .unset, .unset, .unset, .unset, .unset, .unset, .unset, .unset, .unset, .unset, .unset, .unset, .unset, .unset] [(.ref b4), (.ref b209), (.ref b209)])) rfl (by rw [hml]; rfl) (Steps.refl _) (a := b209) (argsL := [(.ref b4)]) (rest := [(.ref b209)]) (lenOf own_pd_4 rfl) rfl (by show 2 * 0 + _ ≤ _; exact Nat.le_of_eq rfl) (hb hby at_123) (fun _ _ => ⟨rfl, e209, (by decide : 3 + 1 ≤ _), (by decide : 8 + 2 ≤ _)⟩)
          dsimp only [Pt.U, Pt.locs, Pt.cells, Pt.slots] at X216 l216 y216 z216 st216 hQ216
          subst l216 y216 z216
          obtain ⟨h216, e216⟩ : ∃ z, T216.heap = z := ⟨_, rfl⟩
          rw [e216] at hQ216
          obtain ⟨rfl, Nc216, Kc216, Es216, Cs216, t216, kb216, ta216, tb216, tc216, Vs216, As216⟩ := hQ216
          have N216 := Fr.app N205 Nc216
          have O217 := O210.keep Kc216 (allS (show n0 ≤ b209 by omega) all0)
          have sz218 : h209.size ≤ h216.size := Kc216.1
          have hk219 := Nat.le_trans hk212 Kc216.1
          have lt216 : t216 < h216.size := As216.lt
          have lx216 : b209 < h216.size := Es216.lt
          refine own_goS st216 ?_
          show own_Goes p e below (T216.setTop (mkF m 126 #[.val (.int x0), .val (.int x1), .val (.int x2), .val (.int x3), .val (.int x4), .val (.int x5), .val (.int z1), .val (.int z2), .val (.int (0 : Int32)), .val (.ref b4), .val (.ref b18), .unset, .unset, .unset, .unset, .unset, .unset, .unset, .unset, .unset, .unset, .unset, .unset, .unset, .unset] [(.ref b209)])) _
          refine own_go (fun t_ k_ => XS.astore X216.here hx rfl (hb hby at_126) rfl rfl (l' := #[.val (.int x0), .val (.int x1), .val (.int x2), .val (.int x3), .val (.int x4), .val (.int x5), .val (.int z1), .val (.int z2), .val (.int (0 : Int32)), .val (.ref b4), .val (.ref b18), .val (.ref b209), .unset, .unset, .unset, .unset, .unset, .unset, .unset, .unset, .unset, .unset, .unset, .unset, .unset]) rfl k_) ?_
          show own_Goes p e below (T216.setTop (mkF m 128 #[.val (.int x0), .val (.int x1), .val (.int x2), .val (.int x3), .val (.int x4), .val (.int x5), .val (.int z1), .val (.int z2), .val (.int (0 : Int32)), .val (.ref b4), .val (.ref b18), .val (.ref b209), .unset, .unset, .unset, .unset, .unset, .unset, .unset, .unset, .unset, .unset, .unset, .unset, .unset] [])) _
          obtain ⟨T220, h220, X220, e220, E220, A220, D220, -, st220⟩ := newO X216 hx hZ hown (hw _ (List.mem_of_getElem? (i := 1) rfl)) (hw _ (List.mem_of_getElem? (i := 2) rfl)) (hw _ (List.mem_of_getElem? (i := 3) rfl)) e216 (g := (mkF m 128 #[.val (.int x0), .val (.int x1), .val (.int x2), .val (.int x3), .val (.int x4), .val (.int x5), .val (.int z1), .val (.int z2), .val (.int (0 : Int32)), .val (.ref b4), .val (.ref b18), .val (.ref b209), .unset, .unset, .unset, .unset, .unset, .unset, .unset, .unset, .unset, .unset, .unset, .unset, .unset] [])) rfl (hb hby at_128) (by decide) (by decide)
          obtain ⟨b220, g220⟩ : ∃ z, z = h216.size := ⟨_, rfl⟩
          rw [← g220] at A220 D220 st220
          refine own_go st220 ?_
          have O221 := O217.ext E220
          have sz222 : h216.size ≤ h220.size := E220.1
          have hk223 := Nat.le_trans hk219 E220.1
          have l220 : b220 < h220.size := A220.lt
          have F220_coder : Fld Z h220 b220 "java/lang/String" "coder" "B" (.int (0 : Int32)) := D220 (Or.inr (hw _ (List.mem_of_getElem? (i := 27) rfl))) (ty := .byte) (by decide)
          have F220_value : Fld Z h220 b220 "java/lang/String" "value" "[B" .null := D220 (Or.inr (hw _ (List.mem_of_getElem? (i := 29) rfl))) (ty := (.array .byte)) (by decide)
          show own_Goes p e below (T220.setTop (mkF m 131 #[.val (.int x0), .val (.int x1), .val (.int x2), .val (.int x3), .val (.int x4), .val (.int x5), .val (.int z1), .val (.int z2), .val (.int (0 : Int32)), .val (.ref b4), .val (.ref b18), .val (.ref b209), .unset, .unset, .unset, .unset, .unset, .unset, .unset, .unset, .unset, .unset, .unset, .unset, .unset] [(.ref b220)])) _
          refine own_go (fun t_ k_ => XS.dup X220.here hx rfl (hb hby at_131) rfl rfl k_) ?_
          show own_Goes p e below (T220.setTop (mkF m 132 #[.val (.int x0), .val (.int x1), .val (.int x2), .val (.int x3), .val (.int x4), .val (.int x5), .val (.int z1), .val (.int z2), .val (.int (0 : Int32)), .val (.ref b4), .val (.ref b18), .val (.ref b209), .unset, .unset, .unset, .unset, .unset, .unset, .unset, .unset, .unset, .unset, .unset, .unset, .unset] [(.ref b220), (.ref b220)])) _
          refine own_go (fun t_ k_ => XS.aload X220.here hx rfl (hb hby at_132) rfl rfl k_) ?_
          show own_Goes p e below (T220.setTop (mkF m 134 #[.val (.int x0), .val (.int x1), .val (.int x2), .val (.int x3), .val (.int x4), .val (.int x5), .val (.int z1), .val (.int z2), .val (.int (0 : Int32)), .val (.ref b4), .val (.ref b18), .val (.ref b209), .unset, .unset, .unset, .unset, .unset, .unset, .unset, .unset, .unset, .unset, .unset, .unset, .unset] [(.ref b18), (.ref b220), (.ref b220)])) _
          have f224 := (((V205.ext E209).keep Kc216 (ninS (own_ne (a := b18) (b := b209) (by omega)) nin0)).ext E220)
          have q225 := G0.ext O221.2
          have hp226 : ∀ c_ ∈ ([(x3 &&& (255 : Int32)), (x4 &&& (255 : Int32))] : List Int32), ¬ c_ < 0 ∧ ¬ (255 : Int32) < c_ := by
            intro c_ hc_
            simp only [List.mem_cons, List.not_mem_nil, or_false] at hc_
            rcases hc_ with rfl | rfl
            · exact (own_ch255 _)
            · exact (own_ch255 _)
          obtain ⟨_, _, ⟨T227, L227, k227, n227⟩, -, X227, ⟨Lc227, hQ227, l227, y227, z227⟩, st227⟩ := X220.specialBack hx (y := (⟨"java/lang/String", "<init>", "([C)V"⟩ : MethodName)) rfl hown (mvT hZ (hw _ (List.mem_of_getElem? (i := 4) rfl))) (mvT hZ (hw _ (List.mem_of_getElem? (i := 5) rfl))) (mvT hZ (hw _ (List.mem_of_getElem? (i := 6) rfl))) (by decide) (StrChars.Road.backV (W := 1) hZ (own_wV hw) (kI := 4) (hw _ (List.mem_of_getElem? (i := 2) rfl)) (cs := ([(x3 &&& (255 : Int32)), (x4 &&& (255 : Int32))] : List Int32)) (bs := ([(x3 &&& (255 : Int32)), (x4 &&& (255 : Int32))] : List Int32).map (fun c => c.toInt8.toInt32)) (n := 2) (show n0 ≤ b220 by omega) (show n0 ≤ h220.size by omega) A220 F220_value F220_coder f224 q225 G1 rfl rfl (by decide) (by decide) hp226 rfl (by decide) (by decide)) (g := (mkF m 134 #[.val (.int x0), .val (.int x1), .val (.int x2), .val (.int x3), .val (.int x4), .val (.int x5), .val (.int z1), .val (.int z2), .val (.int (0 : Int32)), .val (.ref b4), .val (.ref b18), .val (.ref b209), .unset, .unset, .unset, .unset, .unset, .unset, .unset, .unset, .unset, .unset, .unset, .unset, .unset] [(.ref b18), (.ref b220), (.ref b220)])) rfl (by rw [hml]; rfl) (Steps.refl _) (a := b220) (argsL := [(.ref b18)]) (rest := [(.ref b220)]) (lenOf own_pd_4 rfl) rfl (by show 2 * 0 + _ ≤ _; exact Nat.le_of_eq rfl) (hb hby at_134) (fun _ _ => ⟨rfl, e220, (by decide : 5 + 1 ≤ _), (by decide : 14 + 2 ≤ _)⟩)
          dsimp only [Pt.U, Pt.locs, Pt.cells, Pt.slots] at X227 l227 y227 z227 st227 hQ227
          subst l227 y227 z227
          obtain ⟨h227, e227⟩ : ∃ z, T227.heap = z := ⟨_, rfl⟩
          rw [e227] at hQ227
          obtain ⟨rfl, Nc227, Kc227, Es227, Cs227, t227, kb227, ta227, tb227, tc227, Vs227, As227⟩ := hQ227
          have N227 := Fr.app N216 Nc227
          have O228 := O221.keep Kc227 (allS (show n0 ≤ b220 by omega) all0)
          have sz229 : h220.size ≤ h227.size := Kc227.1
          have hk230 := Nat.le_trans hk223 Kc227.1
          have lt227 : t227 < h227.size := As227.lt
          have lx227 : b220 < h227.size := Es227.lt
          refine own_goS st227 ?_
          show own_Goes p e below (T227.setTop (mkF m 137 #[.val (.int x0), .val (.int x1), .val (.int x2), .val (.int x3), .val (.int x4), .val (.int x5), .val (.int z1), .val (.int z2), .val (.int (0 : Int32)), .val (.ref b4), .val (.ref b18), .val (.ref b209), .unset, .unset, .unset, .unset, .unset, .unset, .unset, .unset, .unset, .unset, .unset, .unset, .unset] [(.ref b220)])) _
          refine own_go (fun t_ k_ => XS.astore X227.here hx rfl (hb hby at_137) rfl rfl (l' := #[.val (.int x0), .val (.int x1), .val (.int x2), .val (.int x3), .val (.int x4), .val (.int x5), .val (.int z1), .val (.int z2), .val (.int (0 : Int32)), .val (.ref b4), .val (.ref b18), .val (.ref b209), .val (.ref b220), .unset, .unset, .unset, .unset, .unset, .unset, .unset, .unset, .unset, .unset, .unset, .unset]) rfl k_) ?_
          show own_Goes p e below (T227.setTop (mkF m 139 #[.val (.int x0), .val (.int x1), .val (.int x2), .val (.int x3), .val (.int x4), .val (.int x5), .val (.int z1), .val (.int z2), .val (.int (0 : Int32)), .val (.ref b4), .val (.ref b18), .val (.ref b209), .val (.ref b220), .unset, .unset, .unset, .unset, .unset, .unset, .unset, .unset, .unset, .unset, .unset, .unset] [])) _
          obtain ⟨T231, h231, X231, e231, E231, A231, D231, -, st231⟩ := newO X227 hx hZ hown (hw _ (List.mem_of_getElem? (i := 30) rfl)) (hw _ (List.mem_of_getElem? (i := 31) rfl)) (hw _ (List.mem_of_getElem? (i := 32) rfl)) e227 (g := (mkF m 139 #[.val (.int x0), .val (.int x1), .val (.int x2), .val (.int x3), .val (.int x4), .val (.int x5), .val (.int z1), .val (.int z2), .val (.int (0 : Int32)), .val (.ref b4), .val (.ref b18), .val (.ref b209), .val (.ref b220), .unset, .unset, .unset, .unset, .unset, .unset, .unset, .unset, .unset, .unset, .unset, .unset] [])) rfl (hb hby at_139) (by decide) (by decide)
          obtain ⟨b231, g231⟩ : ∃ z, z = h227.size := ⟨_, rfl⟩
          rw [← g231] at A231 D231 st231
          refine own_go st231 ?_
          have O232 := O228.ext E231
          have sz233 : h227.size ≤ h231.size := E231.1
          have hk234 := Nat.le_trans hk230 E231.1
          have l231 : b231 < h231.size := A231.lt
          have F231_name : Fld Z h231 b231 "com/example/breach_or_proof/breachorproof/NameSymbol" "name" "Ljava/lang/String;" .null := D231 (Or.inr (hw _ (List.mem_of_getElem? (i := 46) rfl))) (ty := (.object "java/lang/String")) (by decide)
          have F231_isPrivate : Fld Z h231 b231 "com/example/breach_or_proof/breachorproof/NameSymbol" "isPrivate" "Z" (.int (0 : Int32)) := D231 (Or.inr (hw _ (List.mem_of_getElem? (i := 48) rfl))) (ty := .boolean) (by decide)
          show own_Goes p e below (T231.setTop (mkF m 142 #[.val (.int x0), .val (.int x1), .val (.int x2), .val (.int x3), .val (.int x4), .val (.int x5), .val (.int z1), .val (.int z2), .val (.int (0 : Int32)), .val (.ref b4), .val (.ref b18), .val (.ref b209), .val (.ref b220), .unset, .unset, .unset, .unset, .unset, .unset, .unset, .unset, .unset, .unset, .unset, .unset] [(.ref b231)])) _
          refine own_go (fun t_ k_ => XS.dup X231.here hx rfl (hb hby at_142) rfl rfl k_) ?_
          show own_Goes p e below (T231.setTop (mkF m 143 #[.val (.int x0), .val (.int x1), .val (.int x2), .val (.int x3), .val (.int x4), .val (.int x5), .val (.int z1), .val (.int z2), .val (.int (0 : Int32)), .val (.ref b4), .val (.ref b18), .val (.ref b209), .val (.ref b220), .unset, .unset, .unset, .unset, .unset, .unset, .unset, .unset, .unset, .unset, .unset, .unset] [(.ref b231), (.ref b231)])) _
          refine own_go (fun t_ k_ => XS.aload X231.here hx rfl (hb hby at_143) rfl rfl k_) ?_
          show own_Goes p e below (T231.setTop (mkF m 145 #[.val (.int x0), .val (.int x1), .val (.int x2), .val (.int x3), .val (.int x4), .val (.int x5), .val (.int z1), .val (.int z2), .val (.int (0 : Int32)), .val (.ref b4), .val (.ref b18), .val (.ref b209), .val (.ref b220), .unset, .unset, .unset, .unset, .unset, .unset, .unset, .unset, .unset, .unset, .unset, .unset] [(.ref b209), (.ref b231), (.ref b231)])) _
          refine own_go (fun t_ k_ => XS.iload X231.here hx rfl (hb hby at_145) rfl k_) ?_
          show own_Goes p e below (T231.setTop (mkF m 147 #[.val (.int x0), .val (.int x1), .val (.int x2), .val (.int x3), .val (.int x4), .val (.int x5), .val (.int z1), .val (.int z2), .val (.int (0 : Int32)), .val (.ref b4), .val (.ref b18), .val (.ref b209), .val (.ref b220), .unset, .unset, .unset, .unset, .unset, .unset, .unset, .unset, .unset, .unset, .unset, .unset] [(.int z1), (.ref b209), (.ref b231), (.ref b231)])) _
          have f235 := (((Es216.ext E220).keep Kc227).ext E231)
          obtain ⟨_, _, ⟨T236, L236, k236, n236⟩, -, X236, hS236, gr236, ⟨Lc236, hQ236, l236, y236, z236⟩, st236⟩ := X231.specialBackS hx (y := own_m6) rfl hown (mvT hZ (hw _ (List.mem_of_getElem? (i := 33) rfl))) (mvT hZ (hw _ (List.mem_of_getElem? (i := 34) rfl))) (mvT hZ (hw _ (List.mem_of_getElem? (i := 35) rfl))) (by decide) (backOfS (W := 1) (own_nsInit l Z a0 hw [] b231 b209 z1 h231 n0 O232 A231 F231_name F231_isPrivate f235 (show n0 ≤ b231 by first | assumption | omega | decide) (show z1 = 0 ∨ z1 = 1 from (own_01 hbz1))) hZ (hw _ (List.mem_of_getElem? (i := 35) rfl)) (hw _ (List.mem_of_getElem? (i := 32) rfl)) (by decide) (by decide)) (g := (mkF m 147 #[.val (.int x0), .val (.int x1), .val (.int x2), .val (.int x3), .val (.int x4), .val (.int x5), .val (.int z1), .val (.int z2), .val (.int (0 : Int32)), .val (.ref b4), .val (.ref b18), .val (.ref b209), .val (.ref b220), .unset, .unset, .unset, .unset, .unset, .unset, .unset, .unset, .unset, .unset, .unset, .unset] [(.int z1), (.ref b209), (.ref b231), (.ref b231)])) rfl (by rw [hml]; rfl) (Steps.refl _) (a := b231) (argsL := [(.ref b209), (.int z1)]) (rest := [(.ref b231)]) (lenOf own_pd_5 rfl) rfl (by show 2 * 0 + _ ≤ _; exact Nat.le_of_eq rfl) (hb hby at_147) (fun _ _ => ⟨rfl, e231, (by decide : 7 + 2 ≤ _), (by decide : 18 + 20 ≤ _)⟩)
          dsimp only [Pt.U, Pt.locs, Pt.cells, Pt.slots] at X236 l236 y236 z236 st236 hQ236 hS236 gr236
          subst l236 y236 z236
          obtain ⟨h236, e236⟩ : ∃ z, T236.heap = z := ⟨_, rfl⟩
          rw [e236] at hQ236 hS236 gr236
          obtain ⟨Nc236, Kc236, rfl⟩ := hQ236
          obtain ⟨X236, hS236, hZ236, hown236⟩ := rebS (own := "com/example/breach_or_proof/breachorproof/NameEqualsPinLaw") hS0 (show _ ≤ T231.heap.size by rw [e231]; exact hk234) X236 hS236 gr236 hZ hown
          have hk236 : h236.size ≤ h236.size := Nat.le_refl _
          have N236 := Fr.app N227 Nc236
          have O237 := O232.keep Kc236 (allS (show n0 ≤ b231 by omega) all0)
          have sz238 : h231.size ≤ h236.size := Kc236.1
          refine own_goS st236 ?_
          show own_Goes p e below (T236.setTop (mkF m 150 #[.val (.int x0), .val (.int x1), .val (.int x2), .val (.int x3), .val (.int x4), .val (.int x5), .val (.int z1), .val (.int z2), .val (.int (0 : Int32)), .val (.ref b4), .val (.ref b18), .val (.ref b209), .val (.ref b220), .unset, .unset, .unset, .unset, .unset, .unset, .unset, .unset, .unset, .unset, .unset, .unset] [(.ref b231)])) _
          refine own_go (fun t_ k_ => XS.astore X236.here hx rfl (hb hby at_150) rfl rfl (l' := #[.val (.int x0), .val (.int x1), .val (.int x2), .val (.int x3), .val (.int x4), .val (.int x5), .val (.int z1), .val (.int z2), .val (.int (0 : Int32)), .val (.ref b4), .val (.ref b18), .val (.ref b209), .val (.ref b220), .val (.ref b231), .unset, .unset, .unset, .unset, .unset, .unset, .unset, .unset, .unset, .unset, .unset]) rfl k_) ?_
          show own_Goes p e below (T236.setTop (mkF m 152 #[.val (.int x0), .val (.int x1), .val (.int x2), .val (.int x3), .val (.int x4), .val (.int x5), .val (.int z1), .val (.int z2), .val (.int (0 : Int32)), .val (.ref b4), .val (.ref b18), .val (.ref b209), .val (.ref b220), .val (.ref b231), .unset, .unset, .unset, .unset, .unset, .unset, .unset, .unset, .unset, .unset, .unset] [])) _
          obtain ⟨T239, h239, X239, e239, E239, A239, D239, -, st239⟩ := newO X236 hx hZ236 hown236 (hw _ (List.mem_of_getElem? (i := 30) rfl)) (hw _ (List.mem_of_getElem? (i := 31) rfl)) (hw _ (List.mem_of_getElem? (i := 32) rfl)) e236 (g := (mkF m 152 #[.val (.int x0), .val (.int x1), .val (.int x2), .val (.int x3), .val (.int x4), .val (.int x5), .val (.int z1), .val (.int z2), .val (.int (0 : Int32)), .val (.ref b4), .val (.ref b18), .val (.ref b209), .val (.ref b220), .val (.ref b231), .unset, .unset, .unset, .unset, .unset, .unset, .unset, .unset, .unset, .unset, .unset] [])) rfl (hb hby at_152) (by decide) (by decide)
          obtain ⟨b239, g239⟩ : ∃ z, z = h236.size := ⟨_, rfl⟩
          rw [← g239] at A239 D239 st239
          refine own_go st239 ?_
          have O240 := O237.ext E239
          have sz241 : h236.size ≤ h239.size := E239.1
          have hk242 := Nat.le_trans hk236 E239.1
          have l239 : b239 < h239.size := A239.lt
          have F239_name : Fld Z h239 b239 "com/example/breach_or_proof/breachorproof/NameSymbol" "name" "Ljava/lang/String;" .null := D239 (Or.inr (hw _ (List.mem_of_getElem? (i := 46) rfl))) (ty := (.object "java/lang/String")) (by decide)
          have F239_isPrivate : Fld Z h239 b239 "com/example/breach_or_proof/breachorproof/NameSymbol" "isPrivate" "Z" (.int (0 : Int32)) := D239 (Or.inr (hw _ (List.mem_of_getElem? (i := 48) rfl))) (ty := .boolean) (by decide)
          show own_Goes p e below (T239.setTop (mkF m 155 #[.val (.int x0), .val (.int x1), .val (.int x2), .val (.int x3), .val (.int x4), .val (.int x5), .val (.int z1), .val (.int z2), .val (.int (0 : Int32)), .val (.ref b4), .val (.ref b18), .val (.ref b209), .val (.ref b220), .val (.ref b231), .unset, .unset, .unset, .unset, .unset, .unset, .unset, .unset, .unset, .unset, .unset] [(.ref b239)])) _
          refine own_go (fun t_ k_ => XS.dup X239.here hx rfl (hb hby at_155) rfl rfl k_) ?_
          show own_Goes p e below (T239.setTop (mkF m 156 #[.val (.int x0), .val (.int x1), .val (.int x2), .val (.int x3), .val (.int x4), .val (.int x5), .val (.int z1), .val (.int z2), .val (.int (0 : Int32)), .val (.ref b4), .val (.ref b18), .val (.ref b209), .val (.ref b220), .val (.ref b231), .unset, .unset, .unset, .unset, .unset, .unset, .unset, .unset, .unset, .unset, .unset] [(.ref b239), (.ref b239)])) _
          refine own_go (fun t_ k_ => XS.aload X239.here hx rfl (hb hby at_156) rfl rfl k_) ?_
          show own_Goes p e below (T239.setTop (mkF m 158 #[.val (.int x0), .val (.int x1), .val (.int x2), .val (.int x3), .val (.int x4), .val (.int x5), .val (.int z1), .val (.int z2), .val (.int (0 : Int32)), .val (.ref b4), .val (.ref b18), .val (.ref b209), .val (.ref b220), .val (.ref b231), .unset, .unset, .unset, .unset, .unset, .unset, .unset, .unset, .unset, .unset, .unset] [(.ref b220), (.ref b239), (.ref b239)])) _
          refine own_go (fun t_ k_ => XS.iload X239.here hx rfl (hb hby at_158) rfl k_) ?_
          show own_Goes p e below (T239.setTop (mkF m 160 #[.val (.int x0), .val (.int x1), .val (.int x2), .val (.int x3), .val (.int x4), .val (.int x5), .val (.int z1), .val (.int z2), .val (.int (0 : Int32)), .val (.ref b4), .val (.ref b18), .val (.ref b209), .val (.ref b220), .val (.ref b231), .unset, .unset, .unset, .unset, .unset, .unset, .unset, .unset, .unset, .unset, .unset] [(.int (0 : Int32)), (.ref b220), (.ref b239), (.ref b239)])) _
          refine own_go (fun t_ k_ => XS.ifYes X239.here hx rfl (pc0 := 160) (pc' := 168) rfl (hb hby at_160) rfl ((if0 _ _).trans (teq (show ((0 : Int32) = (0 : Int32)) from by decide)).1) (by decide) (by decide) k_) ?_
          show own_Goes p e below (T239.setTop (mkF m 168 #[.val (.int x0), .val (.int x1), .val (.int x2), .val (.int x3), .val (.int x4), .val (.int x5), .val (.int z1), .val (.int z2), .val (.int (0 : Int32)), .val (.ref b4), .val (.ref b18), .val (.ref b209), .val (.ref b220), .val (.ref b231), .unset, .unset, .unset, .unset, .unset, .unset, .unset, .unset, .unset, .unset, .unset] [(.ref b220), (.ref b239), (.ref b239)])) _
          refine own_go (fun t_ k_ => XS.iload X239.here hx rfl (hb hby at_168) rfl k_) ?_
          show own_Goes p e below (T239.setTop (mkF m 170 #[.val (.int x0), .val (.int x1), .val (.int x2), .val (.int x3), .val (.int x4), .val (.int x5), .val (.int z1), .val (.int z2), .val (.int (0 : Int32)), .val (.ref b4), .val (.ref b18), .val (.ref b209), .val (.ref b220), .val (.ref b231), .unset, .unset, .unset, .unset, .unset, .unset, .unset, .unset, .unset, .unset, .unset] [(.int z2), (.ref b220), (.ref b239), (.ref b239)])) _
          have f243 := (((Es227.ext E231).keep Kc236).ext E239)
          obtain ⟨_, _, ⟨T244, L244, k244, n244⟩, -, X244, hS244, gr244, ⟨Lc244, hQ244, l244, y244, z244⟩, st244⟩ := X239.specialBackS hx (y := own_m6) rfl hown236 (mvT hZ236 (hw _ (List.mem_of_getElem? (i := 33) rfl))) (mvT hZ236 (hw _ (List.mem_of_getElem? (i := 34) rfl))) (mvT hZ236 (hw _ (List.mem_of_getElem? (i := 35) rfl))) (by decide) (backOfS (W := 1) (own_nsInit l Z a0 hw [] b239 b220 z2 h239 n0 O240 A239 F239_name F239_isPrivate f243 (show n0 ≤ b239 by first | assumption | omega | decide) (show z2 = 0 ∨ z2 = 1 from (own_01 hbz2))) hZ236 (hw _ (List.mem_of_getElem? (i := 35) rfl)) (hw _ (List.mem_of_getElem? (i := 32) rfl)) (by decide) (by decide)) (g := (mkF m 170 #[.val (.int x0), .val (.int x1), .val (.int x2), .val (.int x3), .val (.int x4), .val (.int x5), .val (.int z1), .val (.int z2), .val (.int (0 : Int32)), .val (.ref b4), .val (.ref b18), .val (.ref b209), .val (.ref b220), .val (.ref b231), .unset, .unset, .unset, .unset, .unset, .unset, .unset, .unset, .unset, .unset, .unset] [(.int z2), (.ref b220), (.ref b239), (.ref b239)])) rfl (by rw [hml]; rfl) (Steps.refl _) (a := b239) (argsL := [(.ref b220), (.int z2)]) (rest := [(.ref b239)]) (lenOf own_pd_5 rfl) rfl (by show 2 * 0 + _ ≤ _; exact Nat.le_of_eq rfl) (hb hby at_170) (fun _ _ => ⟨rfl, e239, (by decide : 10 + 2 ≤ _), (by decide : 40 + 20 ≤ _)⟩)
          dsimp only [Pt.U, Pt.locs, Pt.cells, Pt.slots] at X244 l244 y244 z244 st244 hQ244 hS244 gr244
          subst l244 y244 z244
          obtain ⟨h244, e244⟩ : ∃ z, T244.heap = z := ⟨_, rfl⟩
          rw [e244] at hQ244 hS244 gr244
          obtain ⟨Nc244, Kc244, rfl⟩ := hQ244
          obtain ⟨X244, hS244, hZ244, hown244⟩ := rebS (own := "com/example/breach_or_proof/breachorproof/NameEqualsPinLaw") hS236 (show _ ≤ T239.heap.size by rw [e239]; exact hk242) X244 hS244 gr244 hZ236 hown236
          have hk244 : h244.size ≤ h244.size := Nat.le_refl _
          have N244 := Fr.app N236 Nc244
          have O245 := O240.keep Kc244 (allS (show n0 ≤ b239 by omega) all0)
          have sz246 : h239.size ≤ h244.size := Kc244.1
          refine own_goS st244 ?_
          show own_Goes p e below (T244.setTop (mkF m 173 #[.val (.int x0), .val (.int x1), .val (.int x2), .val (.int x3), .val (.int x4), .val (.int x5), .val (.int z1), .val (.int z2), .val (.int (0 : Int32)), .val (.ref b4), .val (.ref b18), .val (.ref b209), .val (.ref b220), .val (.ref b231), .unset, .unset, .unset, .unset, .unset, .unset, .unset, .unset, .unset, .unset, .unset] [(.ref b239)])) _
          refine own_go (fun t_ k_ => XS.astore X244.here hx rfl (hb hby at_173) rfl rfl (l' := #[.val (.int x0), .val (.int x1), .val (.int x2), .val (.int x3), .val (.int x4), .val (.int x5), .val (.int z1), .val (.int z2), .val (.int (0 : Int32)), .val (.ref b4), .val (.ref b18), .val (.ref b209), .val (.ref b220), .val (.ref b231), .val (.ref b239), .unset, .unset, .unset, .unset, .unset, .unset, .unset, .unset, .unset, .unset]) rfl k_) ?_
          show own_Goes p e below (T244.setTop (mkF m 175 #[.val (.int x0), .val (.int x1), .val (.int x2), .val (.int x3), .val (.int x4), .val (.int x5), .val (.int z1), .val (.int z2), .val (.int (0 : Int32)), .val (.ref b4), .val (.ref b18), .val (.ref b209), .val (.ref b220), .val (.ref b231), .val (.ref b239), .unset, .unset, .unset, .unset, .unset, .unset, .unset, .unset, .unset, .unset] [])) _
          obtain ⟨T247, h247, X247, e247, E247, A247, D247, -, st247⟩ := newO X244 hx hZ244 hown244 (hw _ (List.mem_of_getElem? (i := 49) rfl)) (hw _ (List.mem_of_getElem? (i := 50) rfl)) (hw _ (List.mem_of_getElem? (i := 51) rfl)) e244 (g := (mkF m 175 #[.val (.int x0), .val (.int x1), .val (.int x2), .val (.int x3), .val (.int x4), .val (.int x5), .val (.int z1), .val (.int z2), .val (.int (0 : Int32)), .val (.ref b4), .val (.ref b18), .val (.ref b209), .val (.ref b220), .val (.ref b231), .val (.ref b239), .unset, .unset, .unset, .unset, .unset, .unset, .unset, .unset, .unset, .unset] [])) rfl (hb hby at_175) (by decide) (by decide)
          obtain ⟨b247, g247⟩ : ∃ z, z = h244.size := ⟨_, rfl⟩
          rw [← g247] at A247 D247 st247
          refine own_go st247 ?_
          have O248 := O245.ext E247
          have sz249 : h244.size ≤ h247.size := E247.1
          have hk250 := Nat.le_trans hk244 E247.1
          have l247 : b247 < h247.size := A247.lt
          have F247_symbol : Fld Z h247 b247 "com/example/breach_or_proof/breachorproof/Name" "symbol" "Lcom/example/breach_or_proof/breachorproof/NameSymbol;" .null := D247 (Or.inr (hw _ (List.mem_of_getElem? (i := 66) rfl))) (ty := (.object "com/example/breach_or_proof/breachorproof/NameSymbol")) (by decide)
          show own_Goes p e below (T247.setTop (mkF m 178 #[.val (.int x0), .val (.int x1), .val (.int x2), .val (.int x3), .val (.int x4), .val (.int x5), .val (.int z1), .val (.int z2), .val (.int (0 : Int32)), .val (.ref b4), .val (.ref b18), .val (.ref b209), .val (.ref b220), .val (.ref b231), .val (.ref b239), .unset, .unset, .unset, .unset, .unset, .unset, .unset, .unset, .unset, .unset] [(.ref b247)])) _
          refine own_go (fun t_ k_ => XS.dup X247.here hx rfl (hb hby at_178) rfl rfl k_) ?_
          show own_Goes p e below (T247.setTop (mkF m 179 #[.val (.int x0), .val (.int x1), .val (.int x2), .val (.int x3), .val (.int x4), .val (.int x5), .val (.int z1), .val (.int z2), .val (.int (0 : Int32)), .val (.ref b4), .val (.ref b18), .val (.ref b209), .val (.ref b220), .val (.ref b231), .val (.ref b239), .unset, .unset, .unset, .unset, .unset, .unset, .unset, .unset, .unset, .unset] [(.ref b247), (.ref b247)])) _
          refine own_go (fun t_ k_ => XS.aload X247.here hx rfl (hb hby at_179) rfl rfl k_) ?_
          show own_Goes p e below (T247.setTop (mkF m 181 #[.val (.int x0), .val (.int x1), .val (.int x2), .val (.int x3), .val (.int x4), .val (.int x5), .val (.int z1), .val (.int z2), .val (.int (0 : Int32)), .val (.ref b4), .val (.ref b18), .val (.ref b209), .val (.ref b220), .val (.ref b231), .val (.ref b239), .unset, .unset, .unset, .unset, .unset, .unset, .unset, .unset, .unset, .unset] [(.ref b231), (.ref b247), (.ref b247)])) _
          have f251 := ((((A231.keep Kc236).ext E239).keep Kc244).ext E247)
          obtain ⟨_, _, ⟨T252, L252, k252, n252⟩, -, X252, hS252, gr252, ⟨Lc252, hQ252, l252, y252, z252⟩, st252⟩ := X247.specialBackS hx (y := own_m8) rfl hown244 (mvT hZ244 (hw _ (List.mem_of_getElem? (i := 52) rfl))) (mvT hZ244 (hw _ (List.mem_of_getElem? (i := 53) rfl))) (mvT hZ244 (hw _ (List.mem_of_getElem? (i := 54) rfl))) (by decide) (backOfS (W := 1) (own_nmInit l Z a0 hw [] b247 b231 h247 n0 O248 A247 F247_symbol f251 (show n0 ≤ b247 by first | assumption | omega | decide)) hZ244 (hw _ (List.mem_of_getElem? (i := 54) rfl)) (hw _ (List.mem_of_getElem? (i := 51) rfl)) (by decide) (by decide)) (g := (mkF m 181 #[.val (.int x0), .val (.int x1), .val (.int x2), .val (.int x3), .val (.int x4), .val (.int x5), .val (.int z1), .val (.int z2), .val (.int (0 : Int32)), .val (.ref b4), .val (.ref b18), .val (.ref b209), .val (.ref b220), .val (.ref b231), .val (.ref b239), .unset, .unset, .unset, .unset, .unset, .unset, .unset, .unset, .unset, .unset] [(.ref b231), (.ref b247), (.ref b247)])) rfl (by rw [hml]; rfl) (Steps.refl _) (a := b247) (argsL := [(.ref b231)]) (rest := [(.ref b247)]) (lenOf own_pd_7 rfl) rfl (by show 2 * 0 + _ ≤ _; exact Nat.le_of_eq rfl) (hb hby at_181) (fun _ _ => ⟨rfl, e247, (by decide : 13 + 2 ≤ _), (by decide : 61 + 28 ≤ _)⟩)
          dsimp only [Pt.U, Pt.locs, Pt.cells, Pt.slots] at X252 l252 y252 z252 st252 hQ252 hS252 gr252
          subst l252 y252 z252
          obtain ⟨h252, e252⟩ : ∃ z, T252.heap = z := ⟨_, rfl⟩
          rw [e252] at hQ252 hS252 gr252
          obtain ⟨Nc252, Kc252, rfl, c252_0⟩ := hQ252
          obtain ⟨X252, hS252, hZ252, hown252⟩ := rebS (own := "com/example/breach_or_proof/breachorproof/NameEqualsPinLaw") hS244 (show _ ≤ T247.heap.size by rw [e247]; exact hk250) X252 hS252 gr252 hZ244 hown244
          have hk252 : h252.size ≤ h252.size := Nat.le_refl _
          have N252 := Fr.app N244 Nc252
          have O253 := O248.keep Kc252 (allS (show n0 ≤ b247 by omega) all0)
          have sz254 : h247.size ≤ h252.size := Kc252.1
          refine own_goS st252 ?_
          show own_Goes p e below (T252.setTop (mkF m 184 #[.val (.int x0), .val (.int x1), .val (.int x2), .val (.int x3), .val (.int x4), .val (.int x5), .val (.int z1), .val (.int z2), .val (.int (0 : Int32)), .val (.ref b4), .val (.ref b18), .val (.ref b209), .val (.ref b220), .val (.ref b231), .val (.ref b239), .unset, .unset, .unset, .unset, .unset, .unset, .unset, .unset, .unset, .unset] [(.ref b247)])) _
          refine own_go (fun t_ k_ => XS.astore X252.here hx rfl (hb hby at_184) rfl rfl (l' := #[.val (.int x0), .val (.int x1), .val (.int x2), .val (.int x3), .val (.int x4), .val (.int x5), .val (.int z1), .val (.int z2), .val (.int (0 : Int32)), .val (.ref b4), .val (.ref b18), .val (.ref b209), .val (.ref b220), .val (.ref b231), .val (.ref b239), .val (.ref b247), .unset, .unset, .unset, .unset, .unset, .unset, .unset, .unset, .unset]) rfl k_) ?_
          show own_Goes p e below (T252.setTop (mkF m 186 #[.val (.int x0), .val (.int x1), .val (.int x2), .val (.int x3), .val (.int x4), .val (.int x5), .val (.int z1), .val (.int z2), .val (.int (0 : Int32)), .val (.ref b4), .val (.ref b18), .val (.ref b209), .val (.ref b220), .val (.ref b231), .val (.ref b239), .val (.ref b247), .unset, .unset, .unset, .unset, .unset, .unset, .unset, .unset, .unset] [])) _
          obtain ⟨T255, h255, X255, e255, E255, A255, D255, -, st255⟩ := newO X252 hx hZ252 hown252 (hw _ (List.mem_of_getElem? (i := 49) rfl)) (hw _ (List.mem_of_getElem? (i := 50) rfl)) (hw _ (List.mem_of_getElem? (i := 51) rfl)) e252 (g := (mkF m 186 #[.val (.int x0), .val (.int x1), .val (.int x2), .val (.int x3), .val (.int x4), .val (.int x5), .val (.int z1), .val (.int z2), .val (.int (0 : Int32)), .val (.ref b4), .val (.ref b18), .val (.ref b209), .val (.ref b220), .val (.ref b231), .val (.ref b239), .val (.ref b247), .unset, .unset, .unset, .unset, .unset, .unset, .unset, .unset, .unset] [])) rfl (hb hby at_186) (by decide) (by decide)
          obtain ⟨b255, g255⟩ : ∃ z, z = h252.size := ⟨_, rfl⟩
          rw [← g255] at A255 D255 st255
          refine own_go st255 ?_
          have O256 := O253.ext E255
          have sz257 : h252.size ≤ h255.size := E255.1
          have hk258 := Nat.le_trans hk252 E255.1
          have l255 : b255 < h255.size := A255.lt
          have F255_symbol : Fld Z h255 b255 "com/example/breach_or_proof/breachorproof/Name" "symbol" "Lcom/example/breach_or_proof/breachorproof/NameSymbol;" .null := D255 (Or.inr (hw _ (List.mem_of_getElem? (i := 66) rfl))) (ty := (.object "com/example/breach_or_proof/breachorproof/NameSymbol")) (by decide)
          show own_Goes p e below (T255.setTop (mkF m 189 #[.val (.int x0), .val (.int x1), .val (.int x2), .val (.int x3), .val (.int x4), .val (.int x5), .val (.int z1), .val (.int z2), .val (.int (0 : Int32)), .val (.ref b4), .val (.ref b18), .val (.ref b209), .val (.ref b220), .val (.ref b231), .val (.ref b239), .val (.ref b247), .unset, .unset, .unset, .unset, .unset, .unset, .unset, .unset, .unset] [(.ref b255)])) _
          refine own_go (fun t_ k_ => XS.dup X255.here hx rfl (hb hby at_189) rfl rfl k_) ?_
          show own_Goes p e below (T255.setTop (mkF m 190 #[.val (.int x0), .val (.int x1), .val (.int x2), .val (.int x3), .val (.int x4), .val (.int x5), .val (.int z1), .val (.int z2), .val (.int (0 : Int32)), .val (.ref b4), .val (.ref b18), .val (.ref b209), .val (.ref b220), .val (.ref b231), .val (.ref b239), .val (.ref b247), .unset, .unset, .unset, .unset, .unset, .unset, .unset, .unset, .unset] [(.ref b255), (.ref b255)])) _
          refine own_go (fun t_ k_ => XS.aload X255.here hx rfl (hb hby at_190) rfl rfl k_) ?_
          show own_Goes p e below (T255.setTop (mkF m 192 #[.val (.int x0), .val (.int x1), .val (.int x2), .val (.int x3), .val (.int x4), .val (.int x5), .val (.int z1), .val (.int z2), .val (.int (0 : Int32)), .val (.ref b4), .val (.ref b18), .val (.ref b209), .val (.ref b220), .val (.ref b231), .val (.ref b239), .val (.ref b247), .unset, .unset, .unset, .unset, .unset, .unset, .unset, .unset, .unset] [(.ref b231), (.ref b255), (.ref b255)])) _
          have f259 := ((f251.keep Kc252).ext E255)
          obtain ⟨_, _, ⟨T260, L260, k260, n260⟩, -, X260, hS260, gr260, ⟨Lc260, hQ260, l260, y260, z260⟩, st260⟩ := X255.specialBackS hx (y := own_m8) rfl hown252 (mvT hZ252 (hw _ (List.mem_of_getElem? (i := 52) rfl))) (mvT hZ252 (hw _ (List.mem_of_getElem? (i := 53) rfl))) (mvT hZ252 (hw _ (List.mem_of_getElem? (i := 54) rfl))) (by decide) (backOfS (W := 1) (own_nmInit l Z a0 hw [] b255 b231 h255 n0 O256 A255 F255_symbol f259 (show n0 ≤ b255 by first | assumption | omega | decide)) hZ252 (hw _ (List.mem_of_getElem? (i := 54) rfl)) (hw _ (List.mem_of_getElem? (i := 51) rfl)) (by decide) (by decide)) (g := (mkF m 192 #[.val (.int x0), .val (.int x1), .val (.int x2), .val (.int x3), .val (.int x4), .val (.int x5), .val (.int z1), .val (.int z2), .val (.int (0 : Int32)), .val (.ref b4), .val (.ref b18), .val (.ref b209), .val (.ref b220), .val (.ref b231), .val (.ref b239), .val (.ref b247), .unset, .unset, .unset, .unset, .unset, .unset, .unset, .unset, .unset] [(.ref b231), (.ref b255), (.ref b255)])) rfl (by rw [hml]; rfl) (Steps.refl _) (a := b255) (argsL := [(.ref b231)]) (rest := [(.ref b255)]) (lenOf own_pd_7 rfl) rfl (by show 2 * 0 + _ ≤ _; exact Nat.le_of_eq rfl) (hb hby at_192) (fun _ _ => ⟨rfl, e255, (by decide : 16 + 2 ≤ _), (by decide : 90 + 28 ≤ _)⟩)
          dsimp only [Pt.U, Pt.locs, Pt.cells, Pt.slots] at X260 l260 y260 z260 st260 hQ260 hS260 gr260
          subst l260 y260 z260
          obtain ⟨h260, e260⟩ : ∃ z, T260.heap = z := ⟨_, rfl⟩
          rw [e260] at hQ260 hS260 gr260
          obtain ⟨Nc260, Kc260, rfl, c260_0⟩ := hQ260
          obtain ⟨X260, hS260, hZ260, hown260⟩ := rebS (own := "com/example/breach_or_proof/breachorproof/NameEqualsPinLaw") hS252 (show _ ≤ T255.heap.size by rw [e255]; exact hk258) X260 hS260 gr260 hZ252 hown252
          have hk260 : h260.size ≤ h260.size := Nat.le_refl _
          have N260 := Fr.app N252 Nc260
          have O261 := O256.keep Kc260 (allS (show n0 ≤ b255 by omega) all0)
          have sz262 : h255.size ≤ h260.size := Kc260.1
          refine own_goS st260 ?_
          show own_Goes p e below (T260.setTop (mkF m 195 #[.val (.int x0), .val (.int x1), .val (.int x2), .val (.int x3), .val (.int x4), .val (.int x5), .val (.int z1), .val (.int z2), .val (.int (0 : Int32)), .val (.ref b4), .val (.ref b18), .val (.ref b209), .val (.ref b220), .val (.ref b231), .val (.ref b239), .val (.ref b247), .unset, .unset, .unset, .unset, .unset, .unset, .unset, .unset, .unset] [(.ref b255)])) _
          refine own_go (fun t_ k_ => XS.astore X260.here hx rfl (hb hby at_195) rfl rfl (l' := #[.val (.int x0), .val (.int x1), .val (.int x2), .val (.int x3), .val (.int x4), .val (.int x5), .val (.int z1), .val (.int z2), .val (.int (0 : Int32)), .val (.ref b4), .val (.ref b18), .val (.ref b209), .val (.ref b220), .val (.ref b231), .val (.ref b239), .val (.ref b247), .val (.ref b255), .unset, .unset, .unset, .unset, .unset, .unset, .unset, .unset]) rfl k_) ?_
          show own_Goes p e below (T260.setTop (mkF m 197 #[.val (.int x0), .val (.int x1), .val (.int x2), .val (.int x3), .val (.int x4), .val (.int x5), .val (.int z1), .val (.int z2), .val (.int (0 : Int32)), .val (.ref b4), .val (.ref b18), .val (.ref b209), .val (.ref b220), .val (.ref b231), .val (.ref b239), .val (.ref b247), .val (.ref b255), .unset, .unset, .unset, .unset, .unset, .unset, .unset, .unset] [])) _
          obtain ⟨T263, h263, X263, e263, E263, A263, D263, -, st263⟩ := newO X260 hx hZ260 hown260 (hw _ (List.mem_of_getElem? (i := 49) rfl)) (hw _ (List.mem_of_getElem? (i := 50) rfl)) (hw _ (List.mem_of_getElem? (i := 51) rfl)) e260 (g := (mkF m 197 #[.val (.int x0), .val (.int x1), .val (.int x2), .val (.int x3), .val (.int x4), .val (.int x5), .val (.int z1), .val (.int z2), .val (.int (0 : Int32)), .val (.ref b4), .val (.ref b18), .val (.ref b209), .val (.ref b220), .val (.ref b231), .val (.ref b239), .val (.ref b247), .val (.ref b255), .unset, .unset, .unset, .unset, .unset, .unset, .unset, .unset] [])) rfl (hb hby at_197) (by decide) (by decide)
          obtain ⟨b263, g263⟩ : ∃ z, z = h260.size := ⟨_, rfl⟩
          rw [← g263] at A263 D263 st263
          refine own_go st263 ?_
          have O264 := O261.ext E263
          have sz265 : h260.size ≤ h263.size := E263.1
          have hk266 := Nat.le_trans hk260 E263.1
          have l263 : b263 < h263.size := A263.lt
          have F263_symbol : Fld Z h263 b263 "com/example/breach_or_proof/breachorproof/Name" "symbol" "Lcom/example/breach_or_proof/breachorproof/NameSymbol;" .null := D263 (Or.inr (hw _ (List.mem_of_getElem? (i := 66) rfl))) (ty := (.object "com/example/breach_or_proof/breachorproof/NameSymbol")) (by decide)
          show own_Goes p e below (T263.setTop (mkF m 200 #[.val (.int x0), .val (.int x1), .val (.int x2), .val (.int x3), .val (.int x4), .val (.int x5), .val (.int z1), .val (.int z2), .val (.int (0 : Int32)), .val (.ref b4), .val (.ref b18), .val (.ref b209), .val (.ref b220), .val (.ref b231), .val (.ref b239), .val (.ref b247), .val (.ref b255), .unset, .unset, .unset, .unset, .unset, .unset, .unset, .unset] [(.ref b263)])) _
          refine own_go (fun t_ k_ => XS.dup X263.here hx rfl (hb hby at_200) rfl rfl k_) ?_
          show own_Goes p e below (T263.setTop (mkF m 201 #[.val (.int x0), .val (.int x1), .val (.int x2), .val (.int x3), .val (.int x4), .val (.int x5), .val (.int z1), .val (.int z2), .val (.int (0 : Int32)), .val (.ref b4), .val (.ref b18), .val (.ref b209), .val (.ref b220), .val (.ref b231), .val (.ref b239), .val (.ref b247), .val (.ref b255), .unset, .unset, .unset, .unset, .unset, .unset, .unset, .unset] [(.ref b263), (.ref b263)])) _
          refine own_go (fun t_ k_ => XS.aload X263.here hx rfl (hb hby at_201) rfl rfl k_) ?_
          show own_Goes p e below (T263.setTop (mkF m 203 #[.val (.int x0), .val (.int x1), .val (.int x2), .val (.int x3), .val (.int x4), .val (.int x5), .val (.int z1), .val (.int z2), .val (.int (0 : Int32)), .val (.ref b4), .val (.ref b18), .val (.ref b209), .val (.ref b220), .val (.ref b231), .val (.ref b239), .val (.ref b247), .val (.ref b255), .unset, .unset, .unset, .unset, .unset, .unset, .unset, .unset] [(.ref b239), (.ref b263), (.ref b263)])) _
          have f267 := ((((((A239.keep Kc244).ext E247).keep Kc252).ext E255).keep Kc260).ext E263)
          obtain ⟨_, _, ⟨T268, L268, k268, n268⟩, -, X268, hS268, gr268, ⟨Lc268, hQ268, l268, y268, z268⟩, st268⟩ := X263.specialBackS hx (y := own_m8) rfl hown260 (mvT hZ260 (hw _ (List.mem_of_getElem? (i := 52) rfl))) (mvT hZ260 (hw _ (List.mem_of_getElem? (i := 53) rfl))) (mvT hZ260 (hw _ (List.mem_of_getElem? (i := 54) rfl))) (by decide) (backOfS (W := 1) (own_nmInit l Z a0 hw [] b263 b239 h263 n0 O264 A263 F263_symbol f267 (show n0 ≤ b263 by first | assumption | omega | decide)) hZ260 (hw _ (List.mem_of_getElem? (i := 54) rfl)) (hw _ (List.mem_of_getElem? (i := 51) rfl)) (by decide) (by decide)) (g := (mkF m 203 #[.val (.int x0), .val (.int x1), .val (.int x2), .val (.int x3), .val (.int x4), .val (.int x5), .val (.int z1), .val (.int z2), .val (.int (0 : Int32)), .val (.ref b4), .val (.ref b18), .val (.ref b209), .val (.ref b220), .val (.ref b231), .val (.ref b239), .val (.ref b247), .val (.ref b255), .unset, .unset, .unset, .unset, .unset, .unset, .unset, .unset] [(.ref b239), (.ref b263), (.ref b263)])) rfl (by rw [hml]; rfl) (Steps.refl _) (a := b263) (argsL := [(.ref b239)]) (rest := [(.ref b263)]) (lenOf own_pd_7 rfl) rfl (by show 2 * 0 + _ ≤ _; exact Nat.le_of_eq rfl) (hb hby at_203) (fun _ _ => ⟨rfl, e263, (by decide : 19 + 2 ≤ _), (by decide : 119 + 28 ≤ _)⟩)
          dsimp only [Pt.U, Pt.locs, Pt.cells, Pt.slots] at X268 l268 y268 z268 st268 hQ268 hS268 gr268
          subst l268 y268 z268
          obtain ⟨h268, e268⟩ : ∃ z, T268.heap = z := ⟨_, rfl⟩
          rw [e268] at hQ268 hS268 gr268
          obtain ⟨Nc268, Kc268, rfl, c268_0⟩ := hQ268
          obtain ⟨X268, hS268, hZ268, hown268⟩ := rebS (own := "com/example/breach_or_proof/breachorproof/NameEqualsPinLaw") hS260 (show _ ≤ T263.heap.size by rw [e263]; exact hk266) X268 hS268 gr268 hZ260 hown260
          have hk268 : h268.size ≤ h268.size := Nat.le_refl _
          have N268 := Fr.app N260 Nc268
          have O269 := O264.keep Kc268 (allS (show n0 ≤ b263 by omega) all0)
          have sz270 : h263.size ≤ h268.size := Kc268.1
          refine own_goS st268 ?_
          show own_Goes p e below (T268.setTop (mkF m 206 #[.val (.int x0), .val (.int x1), .val (.int x2), .val (.int x3), .val (.int x4), .val (.int x5), .val (.int z1), .val (.int z2), .val (.int (0 : Int32)), .val (.ref b4), .val (.ref b18), .val (.ref b209), .val (.ref b220), .val (.ref b231), .val (.ref b239), .val (.ref b247), .val (.ref b255), .unset, .unset, .unset, .unset, .unset, .unset, .unset, .unset] [(.ref b263)])) _
          refine own_go (fun t_ k_ => XS.astore X268.here hx rfl (hb hby at_206) rfl rfl (l' := #[.val (.int x0), .val (.int x1), .val (.int x2), .val (.int x3), .val (.int x4), .val (.int x5), .val (.int z1), .val (.int z2), .val (.int (0 : Int32)), .val (.ref b4), .val (.ref b18), .val (.ref b209), .val (.ref b220), .val (.ref b231), .val (.ref b239), .val (.ref b247), .val (.ref b255), .val (.ref b263), .unset, .unset, .unset, .unset, .unset, .unset, .unset]) rfl k_) ?_
          show own_Goes p e below (T268.setTop (mkF m 208 #[.val (.int x0), .val (.int x1), .val (.int x2), .val (.int x3), .val (.int x4), .val (.int x5), .val (.int z1), .val (.int z2), .val (.int (0 : Int32)), .val (.ref b4), .val (.ref b18), .val (.ref b209), .val (.ref b220), .val (.ref b231), .val (.ref b239), .val (.ref b247), .val (.ref b255), .val (.ref b263), .unset, .unset, .unset, .unset, .unset, .unset, .unset] [])) _
          obtain ⟨T271, h271, X271, e271, E271, A271, D271, -, st271⟩ := newO X268 hx hZ268 hown268 (hw _ (List.mem_of_getElem? (i := 67) rfl)) (hw _ (List.mem_of_getElem? (i := 68) rfl)) (hw _ (List.mem_of_getElem? (i := 69) rfl)) e268 (g := (mkF m 208 #[.val (.int x0), .val (.int x1), .val (.int x2), .val (.int x3), .val (.int x4), .val (.int x5), .val (.int z1), .val (.int z2), .val (.int (0 : Int32)), .val (.ref b4), .val (.ref b18), .val (.ref b209), .val (.ref b220), .val (.ref b231), .val (.ref b239), .val (.ref b247), .val (.ref b255), .val (.ref b263), .unset, .unset, .unset, .unset, .unset, .unset, .unset] [])) rfl (hb hby at_208) (by decide) (by decide)
          obtain ⟨b271, g271⟩ : ∃ z, z = h268.size := ⟨_, rfl⟩
          rw [← g271] at A271 D271 st271
          refine own_go st271 ?_
          have O272 := O269.ext E271
          have sz273 : h268.size ≤ h271.size := E271.1
          have hk274 := Nat.le_trans hk268 E271.1
          have l271 : b271 < h271.size := A271.lt
          have F271_name : Fld Z h271 b271 "com/example/breach_or_proof/breachorproof/Variable" "name" "Ljava/lang/String;" .null := D271 (Or.inr (hw _ (List.mem_of_getElem? (i := 78) rfl))) (ty := (.object "java/lang/String")) (by decide)
          show own_Goes p e below (T271.setTop (mkF m 211 #[.val (.int x0), .val (.int x1), .val (.int x2), .val (.int x3), .val (.int x4), .val (.int x5), .val (.int z1), .val (.int z2), .val (.int (0 : Int32)), .val (.ref b4), .val (.ref b18), .val (.ref b209), .val (.ref b220), .val (.ref b231), .val (.ref b239), .val (.ref b247), .val (.ref b255), .val (.ref b263), .unset, .unset, .unset, .unset, .unset, .unset, .unset] [(.ref b271)])) _
          refine own_go (fun t_ k_ => XS.dup X271.here hx rfl (hb hby at_211) rfl rfl k_) ?_
          show own_Goes p e below (T271.setTop (mkF m 212 #[.val (.int x0), .val (.int x1), .val (.int x2), .val (.int x3), .val (.int x4), .val (.int x5), .val (.int z1), .val (.int z2), .val (.int (0 : Int32)), .val (.ref b4), .val (.ref b18), .val (.ref b209), .val (.ref b220), .val (.ref b231), .val (.ref b239), .val (.ref b247), .val (.ref b255), .val (.ref b263), .unset, .unset, .unset, .unset, .unset, .unset, .unset] [(.ref b271), (.ref b271)])) _
          refine own_go (fun t_ k_ => XS.aload X271.here hx rfl (hb hby at_212) rfl rfl k_) ?_
          show own_Goes p e below (T271.setTop (mkF m 214 #[.val (.int x0), .val (.int x1), .val (.int x2), .val (.int x3), .val (.int x4), .val (.int x5), .val (.int z1), .val (.int z2), .val (.int (0 : Int32)), .val (.ref b4), .val (.ref b18), .val (.ref b209), .val (.ref b220), .val (.ref b231), .val (.ref b239), .val (.ref b247), .val (.ref b255), .val (.ref b263), .unset, .unset, .unset, .unset, .unset, .unset, .unset] [(.ref b209), (.ref b271), (.ref b271)])) _
          have f275 := ((((((((((f235.keep Kc236).ext E239).keep Kc244).ext E247).keep Kc252).ext E255).keep Kc260).ext E263).keep Kc268).ext E271)
          obtain ⟨_, _, ⟨T276, L276, k276, n276⟩, -, X276, hS276, gr276, ⟨Lc276, hQ276, l276, y276, z276⟩, st276⟩ := X271.specialBackS hx (y := own_m10) rfl hown268 (mvT hZ268 (hw _ (List.mem_of_getElem? (i := 70) rfl))) (mvT hZ268 (hw _ (List.mem_of_getElem? (i := 71) rfl))) (mvT hZ268 (hw _ (List.mem_of_getElem? (i := 72) rfl))) (by decide) (backOfS (W := 1) (own_vrInit l Z a0 hw [] b271 b209 h271 n0 O272 A271 F271_name f275 (show n0 ≤ b271 by first | assumption | omega | decide)) hZ268 (hw _ (List.mem_of_getElem? (i := 72) rfl)) (hw _ (List.mem_of_getElem? (i := 69) rfl)) (by decide) (by decide)) (g := (mkF m 214 #[.val (.int x0), .val (.int x1), .val (.int x2), .val (.int x3), .val (.int x4), .val (.int x5), .val (.int z1), .val (.int z2), .val (.int (0 : Int32)), .val (.ref b4), .val (.ref b18), .val (.ref b209), .val (.ref b220), .val (.ref b231), .val (.ref b239), .val (.ref b247), .val (.ref b255), .val (.ref b263), .unset, .unset, .unset, .unset, .unset, .unset, .unset] [(.ref b209), (.ref b271), (.ref b271)])) rfl (by rw [hml]; rfl) (Steps.refl _) (a := b271) (argsL := [(.ref b209)]) (rest := [(.ref b271)]) (lenOf own_pd_9 rfl) rfl (by show 2 * 0 + _ ≤ _; exact Nat.le_of_eq rfl) (hb hby at_214) (fun _ _ => ⟨rfl, e271, (by decide : 22 + 2 ≤ _), (by decide : 148 + 20 ≤ _)⟩)
          dsimp only [Pt.U, Pt.locs, Pt.cells, Pt.slots] at X276 l276 y276 z276 st276 hQ276 hS276 gr276
          subst l276 y276 z276
          obtain ⟨h276, e276⟩ : ∃ z, T276.heap = z := ⟨_, rfl⟩
          rw [e276] at hQ276 hS276 gr276
          obtain ⟨Nc276, Kc276, rfl⟩ := hQ276
          obtain ⟨X276, hS276, hZ276, hown276⟩ := rebS (own := "com/example/breach_or_proof/breachorproof/NameEqualsPinLaw") hS268 (show _ ≤ T271.heap.size by rw [e271]; exact hk274) X276 hS276 gr276 hZ268 hown268
          have hk276 : h276.size ≤ h276.size := Nat.le_refl _
          have N276 := Fr.app N268 Nc276
          have O277 := O272.keep Kc276 (allS (show n0 ≤ b271 by omega) all0)
          have sz278 : h271.size ≤ h276.size := Kc276.1
          refine own_goS st276 ?_
          show own_Goes p e below (T276.setTop (mkF m 217 #[.val (.int x0), .val (.int x1), .val (.int x2), .val (.int x3), .val (.int x4), .val (.int x5), .val (.int z1), .val (.int z2), .val (.int (0 : Int32)), .val (.ref b4), .val (.ref b18), .val (.ref b209), .val (.ref b220), .val (.ref b231), .val (.ref b239), .val (.ref b247), .val (.ref b255), .val (.ref b263), .unset, .unset, .unset, .unset, .unset, .unset, .unset] [(.ref b271)])) _
          refine own_go (fun t_ k_ => XS.astore X276.here hx rfl (hb hby at_217) rfl rfl (l' := #[.val (.int x0), .val (.int x1), .val (.int x2), .val (.int x3), .val (.int x4), .val (.int x5), .val (.int z1), .val (.int z2), .val (.int (0 : Int32)), .val (.ref b4), .val (.ref b18), .val (.ref b209), .val (.ref b220), .val (.ref b231), .val (.ref b239), .val (.ref b247), .val (.ref b255), .val (.ref b263), .val (.ref b271), .unset, .unset, .unset, .unset, .unset, .unset]) rfl k_) ?_
          show own_Goes p e below (T276.setTop (mkF m 219 #[.val (.int x0), .val (.int x1), .val (.int x2), .val (.int x3), .val (.int x4), .val (.int x5), .val (.int z1), .val (.int z2), .val (.int (0 : Int32)), .val (.ref b4), .val (.ref b18), .val (.ref b209), .val (.ref b220), .val (.ref b231), .val (.ref b239), .val (.ref b247), .val (.ref b255), .val (.ref b263), .val (.ref b271), .unset, .unset, .unset, .unset, .unset, .unset] [])) _
          refine own_go (fun t_ k_ => XS.iloadN X276.here hx rfl (hb hby at_219) rfl k_) ?_
          show own_Goes p e below (T276.setTop (mkF m 220 #[.val (.int x0), .val (.int x1), .val (.int x2), .val (.int x3), .val (.int x4), .val (.int x5), .val (.int z1), .val (.int z2), .val (.int (0 : Int32)), .val (.ref b4), .val (.ref b18), .val (.ref b209), .val (.ref b220), .val (.ref b231), .val (.ref b239), .val (.ref b247), .val (.ref b255), .val (.ref b263), .val (.ref b271), .unset, .unset, .unset, .unset, .unset, .unset] [(.int x0)])) _
          refine own_go (fun t_ k_ => Jvm.Stand.ldcI X276 hx hown276 (mv hZ276 (hw _ (List.mem_of_getElem? (i := 79) rfl))) rfl (hb hby at_220) k_) ?_
          show own_Goes p e below (T276.setTop (mkF m 222 #[.val (.int x0), .val (.int x1), .val (.int x2), .val (.int x3), .val (.int x4), .val (.int x5), .val (.int z1), .val (.int z2), .val (.int (0 : Int32)), .val (.ref b4), .val (.ref b18), .val (.ref b209), .val (.ref b220), .val (.ref b231), .val (.ref b239), .val (.ref b247), .val (.ref b255), .val (.ref b263), .val (.ref b271), .unset, .unset, .unset, .unset, .unset, .unset] [(.int (2147483647 : Int32)), (.int x0)])) _
          refine own_go (fun t_ k_ => XS.iand X276.here hx rfl (hb hby at_222) rfl k_) ?_
          show own_Goes p e below (T276.setTop (mkF m 223 #[.val (.int x0), .val (.int x1), .val (.int x2), .val (.int x3), .val (.int x4), .val (.int x5), .val (.int z1), .val (.int z2), .val (.int (0 : Int32)), .val (.ref b4), .val (.ref b18), .val (.ref b209), .val (.ref b220), .val (.ref b231), .val (.ref b239), .val (.ref b247), .val (.ref b255), .val (.ref b263), .val (.ref b271), .unset, .unset, .unset, .unset, .unset, .unset] [(.int (x0 &&& (2147483647 : Int32)))])) _
          refine own_go (fun t_ k_ => XS.bipush X276.here hx rfl (hb hby at_223) k_) ?_
          show own_Goes p e below (T276.setTop (mkF m 225 #[.val (.int x0), .val (.int x1), .val (.int x2), .val (.int x3), .val (.int x4), .val (.int x5), .val (.int z1), .val (.int z2), .val (.int (0 : Int32)), .val (.ref b4), .val (.ref b18), .val (.ref b209), .val (.ref b220), .val (.ref b231), .val (.ref b239), .val (.ref b247), .val (.ref b255), .val (.ref b263), .val (.ref b271), .unset, .unset, .unset, .unset, .unset, .unset] [(.int (7 : Int32)), (.int (x0 &&& (2147483647 : Int32)))])) _
          refine own_go (fun t_ k_ => iremM X276 hx rfl (hb hby at_225) rfl (by decide) k_) ?_
          show own_Goes p e below (T276.setTop (mkF m 226 #[.val (.int x0), .val (.int x1), .val (.int x2), .val (.int x3), .val (.int x4), .val (.int x5), .val (.int z1), .val (.int z2), .val (.int (0 : Int32)), .val (.ref b4), .val (.ref b18), .val (.ref b209), .val (.ref b220), .val (.ref b231), .val (.ref b239), .val (.ref b247), .val (.ref b255), .val (.ref b263), .val (.ref b271), .unset, .unset, .unset, .unset, .unset, .unset] [(.int ((x0 &&& (2147483647 : Int32)) % (7 : Int32)))])) _
          refine own_go (fun t_ k_ => XS.istore X276.here hx rfl (hb hby at_226) rfl (l' := #[.val (.int x0), .val (.int x1), .val (.int x2), .val (.int x3), .val (.int x4), .val (.int x5), .val (.int z1), .val (.int z2), .val (.int (0 : Int32)), .val (.ref b4), .val (.ref b18), .val (.ref b209), .val (.ref b220), .val (.ref b231), .val (.ref b239), .val (.ref b247), .val (.ref b255), .val (.ref b263), .val (.ref b271), .val (.int ((x0 &&& (2147483647 : Int32)) % (7 : Int32))), .unset, .unset, .unset, .unset, .unset]) rfl k_) ?_
          show own_Goes p e below (T276.setTop (mkF m 228 #[.val (.int x0), .val (.int x1), .val (.int x2), .val (.int x3), .val (.int x4), .val (.int x5), .val (.int z1), .val (.int z2), .val (.int (0 : Int32)), .val (.ref b4), .val (.ref b18), .val (.ref b209), .val (.ref b220), .val (.ref b231), .val (.ref b239), .val (.ref b247), .val (.ref b255), .val (.ref b263), .val (.ref b271), .val (.int ((x0 &&& (2147483647 : Int32)) % (7 : Int32))), .unset, .unset, .unset, .unset, .unset] [])) _
          refine own_go (fun t_ k_ => XS.iload X276.here hx rfl (hb hby at_228) rfl k_) ?_
          show own_Goes p e below (T276.setTop (mkF m 230 #[.val (.int x0), .val (.int x1), .val (.int x2), .val (.int x3), .val (.int x4), .val (.int x5), .val (.int z1), .val (.int z2), .val (.int (0 : Int32)), .val (.ref b4), .val (.ref b18), .val (.ref b209), .val (.ref b220), .val (.ref b231), .val (.ref b239), .val (.ref b247), .val (.ref b255), .val (.ref b263), .val (.ref b271), .val (.int ((x0 &&& (2147483647 : Int32)) % (7 : Int32))), .unset, .unset, .unset, .unset, .unset] [(.int ((x0 &&& (2147483647 : Int32)) % (7 : Int32)))])) _
          by_cases hc279 : ((x0 &&& (2147483647 : Int32)) % (7 : Int32)) = (0 : Int32)
          · refine own_go (fun t_ k_ => XS.ifNo X276.here hx rfl (hb hby at_230) rfl ((if0 _ _).trans (teq hc279).2) k_) ?_
            show own_Goes p e below (T276.setTop (mkF m 233 #[.val (.int x0), .val (.int x1), .val (.int x2), .val (.int x3), .val (.int x4), .val (.int x5), .val (.int z1), .val (.int z2), .val (.int (0 : Int32)), .val (.ref b4), .val (.ref b18), .val (.ref b209), .val (.ref b220), .val (.ref b231), .val (.ref b239), .val (.ref b247), .val (.ref b255), .val (.ref b263), .val (.ref b271), .val (.int ((x0 &&& (2147483647 : Int32)) % (7 : Int32))), .unset, .unset, .unset, .unset, .unset] [])) _
            refine own_go (fun t_ k_ => XS.aload X276.here hx rfl (hb hby at_233) rfl rfl k_) ?_
            show own_Goes p e below (T276.setTop (mkF m 235 #[.val (.int x0), .val (.int x1), .val (.int x2), .val (.int x3), .val (.int x4), .val (.int x5), .val (.int z1), .val (.int z2), .val (.int (0 : Int32)), .val (.ref b4), .val (.ref b18), .val (.ref b209), .val (.ref b220), .val (.ref b231), .val (.ref b239), .val (.ref b247), .val (.ref b255), .val (.ref b263), .val (.ref b271), .val (.int ((x0 &&& (2147483647 : Int32)) % (7 : Int32))), .unset, .unset, .unset, .unset, .unset] [(.ref b255)])) _
            refine own_go (fun t_ k_ => XS.astore X276.here hx rfl (hb hby at_235) rfl rfl (l' := #[.val (.int x0), .val (.int x1), .val (.int x2), .val (.int x3), .val (.int x4), .val (.int x5), .val (.int z1), .val (.int z2), .val (.int (0 : Int32)), .val (.ref b4), .val (.ref b18), .val (.ref b209), .val (.ref b220), .val (.ref b231), .val (.ref b239), .val (.ref b247), .val (.ref b255), .val (.ref b263), .val (.ref b271), .val (.int ((x0 &&& (2147483647 : Int32)) % (7 : Int32))), .val (.ref b255), .unset, .unset, .unset, .unset]) rfl k_) ?_
            show own_Goes p e below (T276.setTop (mkF m 237 #[.val (.int x0), .val (.int x1), .val (.int x2), .val (.int x3), .val (.int x4), .val (.int x5), .val (.int z1), .val (.int z2), .val (.int (0 : Int32)), .val (.ref b4), .val (.ref b18), .val (.ref b209), .val (.ref b220), .val (.ref b231), .val (.ref b239), .val (.ref b247), .val (.ref b255), .val (.ref b263), .val (.ref b271), .val (.int ((x0 &&& (2147483647 : Int32)) % (7 : Int32))), .val (.ref b255), .unset, .unset, .unset, .unset] [])) _
            refine own_go (fun t_ k_ => XS.iconst X276.here hx rfl (hb hby at_237) k_) ?_
            show own_Goes p e below (T276.setTop (mkF m 238 #[.val (.int x0), .val (.int x1), .val (.int x2), .val (.int x3), .val (.int x4), .val (.int x5), .val (.int z1), .val (.int z2), .val (.int (0 : Int32)), .val (.ref b4), .val (.ref b18), .val (.ref b209), .val (.ref b220), .val (.ref b231), .val (.ref b239), .val (.ref b247), .val (.ref b255), .val (.ref b263), .val (.ref b271), .val (.int ((x0 &&& (2147483647 : Int32)) % (7 : Int32))), .val (.ref b255), .unset, .unset, .unset, .unset] [(.int (1 : Int32))])) _
            refine own_go (fun t_ k_ => XS.istore X276.here hx rfl (hb hby at_238) rfl (l' := #[.val (.int x0), .val (.int x1), .val (.int x2), .val (.int x3), .val (.int x4), .val (.int x5), .val (.int z1), .val (.int z2), .val (.int (0 : Int32)), .val (.ref b4), .val (.ref b18), .val (.ref b209), .val (.ref b220), .val (.ref b231), .val (.ref b239), .val (.ref b247), .val (.ref b255), .val (.ref b263), .val (.ref b271), .val (.int ((x0 &&& (2147483647 : Int32)) % (7 : Int32))), .val (.ref b255), .val (.int (1 : Int32)), .unset, .unset, .unset]) rfl k_) ?_
            show own_Goes p e below (T276.setTop (mkF m 240 #[.val (.int x0), .val (.int x1), .val (.int x2), .val (.int x3), .val (.int x4), .val (.int x5), .val (.int z1), .val (.int z2), .val (.int (0 : Int32)), .val (.ref b4), .val (.ref b18), .val (.ref b209), .val (.ref b220), .val (.ref b231), .val (.ref b239), .val (.ref b247), .val (.ref b255), .val (.ref b263), .val (.ref b271), .val (.int ((x0 &&& (2147483647 : Int32)) % (7 : Int32))), .val (.ref b255), .val (.int (1 : Int32)), .unset, .unset, .unset] [])) _
            refine own_go (fun t_ k_ => XS.goto X276.here hx rfl (pc0 := 240) (pc' := 329) rfl (hb hby at_240) (by decide) (by decide) k_) ?_
            show own_Goes p e below (T276.setTop (mkF m 329 #[.val (.int x0), .val (.int x1), .val (.int x2), .val (.int x3), .val (.int x4), .val (.int x5), .val (.int z1), .val (.int z2), .val (.int (0 : Int32)), .val (.ref b4), .val (.ref b18), .val (.ref b209), .val (.ref b220), .val (.ref b231), .val (.ref b239), .val (.ref b247), .val (.ref b255), .val (.ref b263), .val (.ref b271), .val (.int ((x0 &&& (2147483647 : Int32)) % (7 : Int32))), .val (.ref b255), .val (.int (1 : Int32)), .unset, .unset, .unset] [])) _
            refine own_go (fun t_ k_ => XS.aload X276.here hx rfl (hb hby at_329) rfl rfl k_) ?_
            show own_Goes p e below (T276.setTop (mkF m 331 #[.val (.int x0), .val (.int x1), .val (.int x2), .val (.int x3), .val (.int x4), .val (.int x5), .val (.int z1), .val (.int z2), .val (.int (0 : Int32)), .val (.ref b4), .val (.ref b18), .val (.ref b209), .val (.ref b220), .val (.ref b231), .val (.ref b239), .val (.ref b247), .val (.ref b255), .val (.ref b263), .val (.ref b271), .val (.int ((x0 &&& (2147483647 : Int32)) % (7 : Int32))), .val (.ref b255), .val (.int (1 : Int32)), .unset, .unset, .unset] [(.ref b247)])) _
            refine own_go (fun t_ k_ => XS.aload X276.here hx rfl (hb hby at_331) rfl rfl k_) ?_
            show own_Goes p e below (T276.setTop (mkF m 333 #[.val (.int x0), .val (.int x1), .val (.int x2), .val (.int x3), .val (.int x4), .val (.int x5), .val (.int z1), .val (.int z2), .val (.int (0 : Int32)), .val (.ref b4), .val (.ref b18), .val (.ref b209), .val (.ref b220), .val (.ref b231), .val (.ref b239), .val (.ref b247), .val (.ref b255), .val (.ref b263), .val (.ref b271), .val (.int ((x0 &&& (2147483647 : Int32)) % (7 : Int32))), .val (.ref b255), .val (.int (1 : Int32)), .unset, .unset, .unset] [(.ref b255), (.ref b247)])) _
            have f280 := (((((A255.keep Kc260).ext E263).keep Kc268).ext E271).keep Kc276)
            have f281 := ((((((c252_0.ext E255).keep Kc260 (ninS (own_ne (a := b247) (b := b255) (by omega)) nin0)).ext E263).keep Kc268 (ninS (own_ne (a := b247) (b := b263) (by omega)) nin0)).ext E271).keep Kc276 (ninS (own_ne (a := b247) (b := b271) (by omega)) nin0))
            have f282 := ((((c260_0.ext E263).keep Kc268 (ninS (own_ne (a := b255) (b := b263) (by omega)) nin0)).ext E271).keep Kc276 (ninS (own_ne (a := b255) (b := b271) (by omega)) nin0))
            have f283 := (((((((A247.keep Kc252).ext E255).keep Kc260).ext E263).keep Kc268).ext E271).keep Kc276)
            obtain ⟨cqiv284, kqiv284, qiv284a, qiv284b, qiv284c⟩ := isOf hZ276 e276 f283
            obtain ⟨_, _, ⟨T285, L285, k285, n285⟩, -, X285, ⟨Lc285, hQ285, l285, y285, z285⟩, st285⟩ := X276.virtualBack hx (y := own_m12) (z := own_m12) hown276 (mvT hZ276 (hw _ (List.mem_of_getElem? (i := 80) rfl))) (mvT hZ276 (hw _ (List.mem_of_getElem? (i := 81) rfl))) (notFace_of_selects (args := #[]) (mvT hZ276 (hw _ (List.mem_of_getElem? (i := 83) rfl)))) (mvT hZ276 (hw _ (List.mem_of_getElem? (i := 83) rfl))) (mvT hZ276 (hw _ (List.mem_of_getElem? (i := 82) rfl))) (by decide) (backOf (W := 0) (own_eqT l Z a0 hw [] b247 b255 b231 h276 n0 O277 f280 f281 f282) hZ276 (hw _ (List.mem_of_getElem? (i := 84) rfl)) (hw _ (List.mem_of_getElem? (i := 51) rfl)) (by decide) (by decide)) qiv284a qiv284c (g := (mkF m 333 #[.val (.int x0), .val (.int x1), .val (.int x2), .val (.int x3), .val (.int x4), .val (.int x5), .val (.int z1), .val (.int z2), .val (.int (0 : Int32)), .val (.ref b4), .val (.ref b18), .val (.ref b209), .val (.ref b220), .val (.ref b231), .val (.ref b239), .val (.ref b247), .val (.ref b255), .val (.ref b263), .val (.ref b271), .val (.int ((x0 &&& (2147483647 : Int32)) % (7 : Int32))), .val (.ref b255), .val (.int (1 : Int32)), .unset, .unset, .unset] [(.ref b255), (.ref b247)])) rfl (by rw [hml]; rfl) (Steps.refl _) (argsL := [(.ref b255)]) (rest := []) (lenOf own_pd_11 rfl) rfl (by show 2 * 0 + _ ≤ _; exact Nat.le_of_eq rfl) (hb hby at_333) (fun _ _ => ⟨rfl, e276, (by decide : 24 + 0 ≤ _), (by decide : 168 + 0 ≤ _)⟩)
            dsimp only [Pt.U, Pt.locs, Pt.cells, Pt.slots] at X285 l285 y285 z285 st285 hQ285
            subst l285 y285 z285
            obtain ⟨Nc285, e285, rfl⟩ := hQ285
            have N285 := Fr.app N276 Nc285
            refine own_goS st285 ?_
            show own_Goes p e below (T285.setTop (mkF m 336 #[.val (.int x0), .val (.int x1), .val (.int x2), .val (.int x3), .val (.int x4), .val (.int x5), .val (.int z1), .val (.int z2), .val (.int (0 : Int32)), .val (.ref b4), .val (.ref b18), .val (.ref b209), .val (.ref b220), .val (.ref b231), .val (.ref b239), .val (.ref b247), .val (.ref b255), .val (.ref b263), .val (.ref b271), .val (.int ((x0 &&& (2147483647 : Int32)) % (7 : Int32))), .val (.ref b255), .val (.int (1 : Int32)), .unset, .unset, .unset] [(.int (1 : Int32))])) _
            refine own_go (fun t_ k_ => XS.istore X285.here hx rfl (hb hby at_336) rfl (l' := #[.val (.int x0), .val (.int x1), .val (.int x2), .val (.int x3), .val (.int x4), .val (.int x5), .val (.int z1), .val (.int z2), .val (.int (0 : Int32)), .val (.ref b4), .val (.ref b18), .val (.ref b209), .val (.ref b220), .val (.ref b231), .val (.ref b239), .val (.ref b247), .val (.ref b255), .val (.ref b263), .val (.ref b271), .val (.int ((x0 &&& (2147483647 : Int32)) % (7 : Int32))), .val (.ref b255), .val (.int (1 : Int32)), .val (.int (1 : Int32)), .unset, .unset]) rfl k_) ?_
            show own_Goes p e below (T285.setTop (mkF m 338 #[.val (.int x0), .val (.int x1), .val (.int x2), .val (.int x3), .val (.int x4), .val (.int x5), .val (.int z1), .val (.int z2), .val (.int (0 : Int32)), .val (.ref b4), .val (.ref b18), .val (.ref b209), .val (.ref b220), .val (.ref b231), .val (.ref b239), .val (.ref b247), .val (.ref b255), .val (.ref b263), .val (.ref b271), .val (.int ((x0 &&& (2147483647 : Int32)) % (7 : Int32))), .val (.ref b255), .val (.int (1 : Int32)), .val (.int (1 : Int32)), .unset, .unset] [])) _
            refine own_go (fun t_ k_ => XS.aload X285.here hx rfl (hb hby at_338) rfl rfl k_) ?_
            show own_Goes p e below (T285.setTop (mkF m 340 #[.val (.int x0), .val (.int x1), .val (.int x2), .val (.int x3), .val (.int x4), .val (.int x5), .val (.int z1), .val (.int z2), .val (.int (0 : Int32)), .val (.ref b4), .val (.ref b18), .val (.ref b209), .val (.ref b220), .val (.ref b231), .val (.ref b239), .val (.ref b247), .val (.ref b255), .val (.ref b263), .val (.ref b271), .val (.int ((x0 &&& (2147483647 : Int32)) % (7 : Int32))), .val (.ref b255), .val (.int (1 : Int32)), .val (.int (1 : Int32)), .unset, .unset] [(.ref b255)])) _
            refine own_go (fun t_ k_ => XS.aload X285.here hx rfl (hb hby at_340) rfl rfl k_) ?_
            show own_Goes p e below (T285.setTop (mkF m 342 #[.val (.int x0), .val (.int x1), .val (.int x2), .val (.int x3), .val (.int x4), .val (.int x5), .val (.int z1), .val (.int z2), .val (.int (0 : Int32)), .val (.ref b4), .val (.ref b18), .val (.ref b209), .val (.ref b220), .val (.ref b231), .val (.ref b239), .val (.ref b247), .val (.ref b255), .val (.ref b263), .val (.ref b271), .val (.int ((x0 &&& (2147483647 : Int32)) % (7 : Int32))), .val (.ref b255), .val (.int (1 : Int32)), .val (.int (1 : Int32)), .unset, .unset] [(.ref b247), (.ref b255)])) _
            obtain ⟨cqiv286, kqiv286, qiv286a, qiv286b, qiv286c⟩ := isOf hZ276 e285 f280
            obtain ⟨_, _, ⟨T287, L287, k287, n287⟩, -, X287, ⟨Lc287, hQ287, l287, y287, z287⟩, st287⟩ := X285.virtualBack hx (y := own_m12) (z := own_m12) hown276 (mvT hZ276 (hw _ (List.mem_of_getElem? (i := 80) rfl))) (mvT hZ276 (hw _ (List.mem_of_getElem? (i := 81) rfl))) (notFace_of_selects (args := #[]) (mvT hZ276 (hw _ (List.mem_of_getElem? (i := 83) rfl)))) (mvT hZ276 (hw _ (List.mem_of_getElem? (i := 83) rfl))) (mvT hZ276 (hw _ (List.mem_of_getElem? (i := 82) rfl))) (by decide) (backOf (W := 0) (own_eqT l Z a0 hw [] b255 b247 b231 h276 n0 O277 f283 f282 f281) hZ276 (hw _ (List.mem_of_getElem? (i := 84) rfl)) (hw _ (List.mem_of_getElem? (i := 51) rfl)) (by decide) (by decide)) qiv286a qiv286c (g := (mkF m 342 #[.val (.int x0), .val (.int x1), .val (.int x2), .val (.int x3), .val (.int x4), .val (.int x5), .val (.int z1), .val (.int z2), .val (.int (0 : Int32)), .val (.ref b4), .val (.ref b18), .val (.ref b209), .val (.ref b220), .val (.ref b231), .val (.ref b239), .val (.ref b247), .val (.ref b255), .val (.ref b263), .val (.ref b271), .val (.int ((x0 &&& (2147483647 : Int32)) % (7 : Int32))), .val (.ref b255), .val (.int (1 : Int32)), .val (.int (1 : Int32)), .unset, .unset] [(.ref b247), (.ref b255)])) rfl (by rw [hml]; rfl) (Steps.refl _) (argsL := [(.ref b247)]) (rest := []) (lenOf own_pd_11 rfl) rfl (by show 2 * 0 + _ ≤ _; exact Nat.le_of_eq rfl) (hb hby at_342) (fun _ _ => ⟨rfl, e285, (by decide : 24 + 0 ≤ _), (by decide : 168 + 0 ≤ _)⟩)
            dsimp only [Pt.U, Pt.locs, Pt.cells, Pt.slots] at X287 l287 y287 z287 st287 hQ287
            subst l287 y287 z287
            obtain ⟨Nc287, e287, rfl⟩ := hQ287
            have N287 := Fr.app N285 Nc287
            refine own_goS st287 ?_
            show own_Goes p e below (T287.setTop (mkF m 345 #[.val (.int x0), .val (.int x1), .val (.int x2), .val (.int x3), .val (.int x4), .val (.int x5), .val (.int z1), .val (.int z2), .val (.int (0 : Int32)), .val (.ref b4), .val (.ref b18), .val (.ref b209), .val (.ref b220), .val (.ref b231), .val (.ref b239), .val (.ref b247), .val (.ref b255), .val (.ref b263), .val (.ref b271), .val (.int ((x0 &&& (2147483647 : Int32)) % (7 : Int32))), .val (.ref b255), .val (.int (1 : Int32)), .val (.int (1 : Int32)), .unset, .unset] [(.int (1 : Int32))])) _
            refine own_go (fun t_ k_ => XS.istore X287.here hx rfl (hb hby at_345) rfl (l' := #[.val (.int x0), .val (.int x1), .val (.int x2), .val (.int x3), .val (.int x4), .val (.int x5), .val (.int z1), .val (.int z2), .val (.int (0 : Int32)), .val (.ref b4), .val (.ref b18), .val (.ref b209), .val (.ref b220), .val (.ref b231), .val (.ref b239), .val (.ref b247), .val (.ref b255), .val (.ref b263), .val (.ref b271), .val (.int ((x0 &&& (2147483647 : Int32)) % (7 : Int32))), .val (.ref b255), .val (.int (1 : Int32)), .val (.int (1 : Int32)), .val (.int (1 : Int32)), .unset]) rfl k_) ?_
            show own_Goes p e below (T287.setTop (mkF m 347 #[.val (.int x0), .val (.int x1), .val (.int x2), .val (.int x3), .val (.int x4), .val (.int x5), .val (.int z1), .val (.int z2), .val (.int (0 : Int32)), .val (.ref b4), .val (.ref b18), .val (.ref b209), .val (.ref b220), .val (.ref b231), .val (.ref b239), .val (.ref b247), .val (.ref b255), .val (.ref b263), .val (.ref b271), .val (.int ((x0 &&& (2147483647 : Int32)) % (7 : Int32))), .val (.ref b255), .val (.int (1 : Int32)), .val (.int (1 : Int32)), .val (.int (1 : Int32)), .unset] [])) _
            refine own_go (fun t_ k_ => XS.aload X287.here hx rfl (hb hby at_347) rfl rfl k_) ?_
            show own_Goes p e below (T287.setTop (mkF m 349 #[.val (.int x0), .val (.int x1), .val (.int x2), .val (.int x3), .val (.int x4), .val (.int x5), .val (.int z1), .val (.int z2), .val (.int (0 : Int32)), .val (.ref b4), .val (.ref b18), .val (.ref b209), .val (.ref b220), .val (.ref b231), .val (.ref b239), .val (.ref b247), .val (.ref b255), .val (.ref b263), .val (.ref b271), .val (.int ((x0 &&& (2147483647 : Int32)) % (7 : Int32))), .val (.ref b255), .val (.int (1 : Int32)), .val (.int (1 : Int32)), .val (.int (1 : Int32)), .unset] [(.ref b263)])) _
            refine own_go (fun t_ k_ => XS.aload X287.here hx rfl (hb hby at_349) rfl rfl k_) ?_
            show own_Goes p e below (T287.setTop (mkF m 351 #[.val (.int x0), .val (.int x1), .val (.int x2), .val (.int x3), .val (.int x4), .val (.int x5), .val (.int z1), .val (.int z2), .val (.int (0 : Int32)), .val (.ref b4), .val (.ref b18), .val (.ref b209), .val (.ref b220), .val (.ref b231), .val (.ref b239), .val (.ref b247), .val (.ref b255), .val (.ref b263), .val (.ref b271), .val (.int ((x0 &&& (2147483647 : Int32)) % (7 : Int32))), .val (.ref b255), .val (.int (1 : Int32)), .val (.int (1 : Int32)), .val (.int (1 : Int32)), .unset] [(.ref b247), (.ref b263)])) _
            have f288 := ((c268_0.ext E271).keep Kc276 (ninS (own_ne (a := b263) (b := b271) (by omega)) nin0))
            have f289 := (((A263.keep Kc268).ext E271).keep Kc276)
            obtain ⟨cqiv290, kqiv290, qiv290a, qiv290b, qiv290c⟩ := isOf hZ276 e287 f289
            obtain ⟨_, _, ⟨T291, L291, k291, n291⟩, -, X291, ⟨Lc291, hQ291, l291, y291, z291⟩, st291⟩ := X287.virtualBack hx (y := own_m12) (z := own_m12) hown276 (mvT hZ276 (hw _ (List.mem_of_getElem? (i := 80) rfl))) (mvT hZ276 (hw _ (List.mem_of_getElem? (i := 81) rfl))) (notFace_of_selects (args := #[]) (mvT hZ276 (hw _ (List.mem_of_getElem? (i := 83) rfl)))) (mvT hZ276 (hw _ (List.mem_of_getElem? (i := 83) rfl))) (mvT hZ276 (hw _ (List.mem_of_getElem? (i := 82) rfl))) (by decide) (backOf (W := 0) (own_eqF l Z a0 hw [] b263 b247 b239 b231 h276 n0 O277 f283 f288 f281 (show ¬ b231 = b239 from (by omega))) hZ276 (hw _ (List.mem_of_getElem? (i := 84) rfl)) (hw _ (List.mem_of_getElem? (i := 51) rfl)) (by decide) (by decide)) qiv290a qiv290c (g := (mkF m 351 #[.val (.int x0), .val (.int x1), .val (.int x2), .val (.int x3), .val (.int x4), .val (.int x5), .val (.int z1), .val (.int z2), .val (.int (0 : Int32)), .val (.ref b4), .val (.ref b18), .val (.ref b209), .val (.ref b220), .val (.ref b231), .val (.ref b239), .val (.ref b247), .val (.ref b255), .val (.ref b263), .val (.ref b271), .val (.int ((x0 &&& (2147483647 : Int32)) % (7 : Int32))), .val (.ref b255), .val (.int (1 : Int32)), .val (.int (1 : Int32)), .val (.int (1 : Int32)), .unset] [(.ref b247), (.ref b263)])) rfl (by rw [hml]; rfl) (Steps.refl _) (argsL := [(.ref b247)]) (rest := []) (lenOf own_pd_11 rfl) rfl (by show 2 * 0 + _ ≤ _; exact Nat.le_of_eq rfl) (hb hby at_351) (fun _ _ => ⟨rfl, e287, (by decide : 24 + 0 ≤ _), (by decide : 168 + 0 ≤ _)⟩)
            dsimp only [Pt.U, Pt.locs, Pt.cells, Pt.slots] at X291 l291 y291 z291 st291 hQ291
            subst l291 y291 z291
            obtain ⟨Nc291, e291, rfl⟩ := hQ291
            have N291 := Fr.app N287 Nc291
            refine own_goS st291 ?_
            show own_Goes p e below (T291.setTop (mkF m 354 #[.val (.int x0), .val (.int x1), .val (.int x2), .val (.int x3), .val (.int x4), .val (.int x5), .val (.int z1), .val (.int z2), .val (.int (0 : Int32)), .val (.ref b4), .val (.ref b18), .val (.ref b209), .val (.ref b220), .val (.ref b231), .val (.ref b239), .val (.ref b247), .val (.ref b255), .val (.ref b263), .val (.ref b271), .val (.int ((x0 &&& (2147483647 : Int32)) % (7 : Int32))), .val (.ref b255), .val (.int (1 : Int32)), .val (.int (1 : Int32)), .val (.int (1 : Int32)), .unset] [(.int (0 : Int32))])) _
            refine own_go (fun t_ k_ => XS.istore X291.here hx rfl (hb hby at_354) rfl (l' := #[.val (.int x0), .val (.int x1), .val (.int x2), .val (.int x3), .val (.int x4), .val (.int x5), .val (.int z1), .val (.int z2), .val (.int (0 : Int32)), .val (.ref b4), .val (.ref b18), .val (.ref b209), .val (.ref b220), .val (.ref b231), .val (.ref b239), .val (.ref b247), .val (.ref b255), .val (.ref b263), .val (.ref b271), .val (.int ((x0 &&& (2147483647 : Int32)) % (7 : Int32))), .val (.ref b255), .val (.int (1 : Int32)), .val (.int (1 : Int32)), .val (.int (1 : Int32)), .val (.int (0 : Int32))]) rfl k_) ?_
            show own_Goes p e below (T291.setTop (mkF m 356 #[.val (.int x0), .val (.int x1), .val (.int x2), .val (.int x3), .val (.int x4), .val (.int x5), .val (.int z1), .val (.int z2), .val (.int (0 : Int32)), .val (.ref b4), .val (.ref b18), .val (.ref b209), .val (.ref b220), .val (.ref b231), .val (.ref b239), .val (.ref b247), .val (.ref b255), .val (.ref b263), .val (.ref b271), .val (.int ((x0 &&& (2147483647 : Int32)) % (7 : Int32))), .val (.ref b255), .val (.int (1 : Int32)), .val (.int (1 : Int32)), .val (.int (1 : Int32)), .val (.int (0 : Int32))] [])) _
            refine own_go (fun t_ k_ => XS.iload X291.here hx rfl (hb hby at_356) rfl k_) ?_
            show own_Goes p e below (T291.setTop (mkF m 358 #[.val (.int x0), .val (.int x1), .val (.int x2), .val (.int x3), .val (.int x4), .val (.int x5), .val (.int z1), .val (.int z2), .val (.int (0 : Int32)), .val (.ref b4), .val (.ref b18), .val (.ref b209), .val (.ref b220), .val (.ref b231), .val (.ref b239), .val (.ref b247), .val (.ref b255), .val (.ref b263), .val (.ref b271), .val (.int ((x0 &&& (2147483647 : Int32)) % (7 : Int32))), .val (.ref b255), .val (.int (1 : Int32)), .val (.int (1 : Int32)), .val (.int (1 : Int32)), .val (.int (0 : Int32))] [(.int (1 : Int32))])) _
            refine own_go (fun t_ k_ => XS.iload X291.here hx rfl (hb hby at_358) rfl k_) ?_
            show own_Goes p e below (T291.setTop (mkF m 360 #[.val (.int x0), .val (.int x1), .val (.int x2), .val (.int x3), .val (.int x4), .val (.int x5), .val (.int z1), .val (.int z2), .val (.int (0 : Int32)), .val (.ref b4), .val (.ref b18), .val (.ref b209), .val (.ref b220), .val (.ref b231), .val (.ref b239), .val (.ref b247), .val (.ref b255), .val (.ref b263), .val (.ref b271), .val (.int ((x0 &&& (2147483647 : Int32)) % (7 : Int32))), .val (.ref b255), .val (.int (1 : Int32)), .val (.int (1 : Int32)), .val (.int (1 : Int32)), .val (.int (0 : Int32))] [(.int (1 : Int32)), (.int (1 : Int32))])) _
            refine own_go (fun t_ k_ => XS.icmpNo X291.here hx rfl (hb hby at_360) rfl (teq (show ((1 : Int32) = (1 : Int32)) from by decide)).2 k_) ?_
            show own_Goes p e below (T291.setTop (mkF m 363 #[.val (.int x0), .val (.int x1), .val (.int x2), .val (.int x3), .val (.int x4), .val (.int x5), .val (.int z1), .val (.int z2), .val (.int (0 : Int32)), .val (.ref b4), .val (.ref b18), .val (.ref b209), .val (.ref b220), .val (.ref b231), .val (.ref b239), .val (.ref b247), .val (.ref b255), .val (.ref b263), .val (.ref b271), .val (.int ((x0 &&& (2147483647 : Int32)) % (7 : Int32))), .val (.ref b255), .val (.int (1 : Int32)), .val (.int (1 : Int32)), .val (.int (1 : Int32)), .val (.int (0 : Int32))] [])) _
            refine own_go (fun t_ k_ => XS.iload X291.here hx rfl (hb hby at_363) rfl k_) ?_
            show own_Goes p e below (T291.setTop (mkF m 365 #[.val (.int x0), .val (.int x1), .val (.int x2), .val (.int x3), .val (.int x4), .val (.int x5), .val (.int z1), .val (.int z2), .val (.int (0 : Int32)), .val (.ref b4), .val (.ref b18), .val (.ref b209), .val (.ref b220), .val (.ref b231), .val (.ref b239), .val (.ref b247), .val (.ref b255), .val (.ref b263), .val (.ref b271), .val (.int ((x0 &&& (2147483647 : Int32)) % (7 : Int32))), .val (.ref b255), .val (.int (1 : Int32)), .val (.int (1 : Int32)), .val (.int (1 : Int32)), .val (.int (0 : Int32))] [(.int (1 : Int32))])) _
            refine own_go (fun t_ k_ => XS.ifNo X291.here hx rfl (hb hby at_365) rfl ((if0 _ _).trans (feq (show ¬ ((1 : Int32) = (0 : Int32)) from by decide)).1) k_) ?_
            show own_Goes p e below (T291.setTop (mkF m 368 #[.val (.int x0), .val (.int x1), .val (.int x2), .val (.int x3), .val (.int x4), .val (.int x5), .val (.int z1), .val (.int z2), .val (.int (0 : Int32)), .val (.ref b4), .val (.ref b18), .val (.ref b209), .val (.ref b220), .val (.ref b231), .val (.ref b239), .val (.ref b247), .val (.ref b255), .val (.ref b263), .val (.ref b271), .val (.int ((x0 &&& (2147483647 : Int32)) % (7 : Int32))), .val (.ref b255), .val (.int (1 : Int32)), .val (.int (1 : Int32)), .val (.int (1 : Int32)), .val (.int (0 : Int32))] [])) _
            refine own_go (fun t_ k_ => XS.iload X291.here hx rfl (hb hby at_368) rfl k_) ?_
            show own_Goes p e below (T291.setTop (mkF m 370 #[.val (.int x0), .val (.int x1), .val (.int x2), .val (.int x3), .val (.int x4), .val (.int x5), .val (.int z1), .val (.int z2), .val (.int (0 : Int32)), .val (.ref b4), .val (.ref b18), .val (.ref b209), .val (.ref b220), .val (.ref b231), .val (.ref b239), .val (.ref b247), .val (.ref b255), .val (.ref b263), .val (.ref b271), .val (.int ((x0 &&& (2147483647 : Int32)) % (7 : Int32))), .val (.ref b255), .val (.int (1 : Int32)), .val (.int (1 : Int32)), .val (.int (1 : Int32)), .val (.int (0 : Int32))] [(.int (0 : Int32))])) _
            refine own_go (fun t_ k_ => XS.ifNo X291.here hx rfl (hb hby at_370) rfl ((if0 _ _).trans (teq (show ((0 : Int32) = (0 : Int32)) from by decide)).2) k_) ?_
            show own_Goes p e below (T291.setTop (mkF m 373 #[.val (.int x0), .val (.int x1), .val (.int x2), .val (.int x3), .val (.int x4), .val (.int x5), .val (.int z1), .val (.int z2), .val (.int (0 : Int32)), .val (.ref b4), .val (.ref b18), .val (.ref b209), .val (.ref b220), .val (.ref b231), .val (.ref b239), .val (.ref b247), .val (.ref b255), .val (.ref b263), .val (.ref b271), .val (.int ((x0 &&& (2147483647 : Int32)) % (7 : Int32))), .val (.ref b255), .val (.int (1 : Int32)), .val (.int (1 : Int32)), .val (.int (1 : Int32)), .val (.int (0 : Int32))] [])) _
            refine own_go (fun t_ k_ => XS.iconst X291.here hx rfl (hb hby at_373) k_) ?_
            show own_Goes p e below (T291.setTop (mkF m 374 #[.val (.int x0), .val (.int x1), .val (.int x2), .val (.int x3), .val (.int x4), .val (.int x5), .val (.int z1), .val (.int z2), .val (.int (0 : Int32)), .val (.ref b4), .val (.ref b18), .val (.ref b209), .val (.ref b220), .val (.ref b231), .val (.ref b239), .val (.ref b247), .val (.ref b255), .val (.ref b263), .val (.ref b271), .val (.int ((x0 &&& (2147483647 : Int32)) % (7 : Int32))), .val (.ref b255), .val (.int (1 : Int32)), .val (.int (1 : Int32)), .val (.int (1 : Int32)), .val (.int (0 : Int32))] [(.int (1 : Int32))])) _
            refine own_go (fun t_ k_ => XS.goto X291.here hx rfl (pc0 := 374) (pc' := 378) rfl (hb hby at_374) (by decide) (by decide) k_) ?_
            show own_Goes p e below (T291.setTop (mkF m 378 #[.val (.int x0), .val (.int x1), .val (.int x2), .val (.int x3), .val (.int x4), .val (.int x5), .val (.int z1), .val (.int z2), .val (.int (0 : Int32)), .val (.ref b4), .val (.ref b18), .val (.ref b209), .val (.ref b220), .val (.ref b231), .val (.ref b239), .val (.ref b247), .val (.ref b255), .val (.ref b263), .val (.ref b271), .val (.int ((x0 &&& (2147483647 : Int32)) % (7 : Int32))), .val (.ref b255), .val (.int (1 : Int32)), .val (.int (1 : Int32)), .val (.int (1 : Int32)), .val (.int (0 : Int32))] [(.int (1 : Int32))])) _
            refine own_endW X291 hS276 (show _ ≤ T291.heap.size by rw [e291]; exact hk276) (v := (some (.int (1 : Int32)))) (fun h => by rw [hret] at h; cases h) hlk (by decide) (by decide) ?_ (fun fs hr => retOut X291 hx hret rfl (Or.inl ⟨rfl, Or.inr (Or.inl rfl), _, rfl⟩) (hb hby at_378) hr)
            show Q_rm0 Z x0 x1 x2 x3 x4 x5 gz h0 n0 _ T291.heap _
            rw [e291]
            exact ⟨N291, trivial, rfl⟩
          · refine own_go (fun t_ k_ => XS.ifYes X276.here hx rfl (pc0 := 230) (pc' := 243) rfl (hb hby at_230) rfl ((if0 _ _).trans (feq hc279).2) (by decide) (by decide) k_) ?_
            show own_Goes p e below (T276.setTop (mkF m 243 #[.val (.int x0), .val (.int x1), .val (.int x2), .val (.int x3), .val (.int x4), .val (.int x5), .val (.int z1), .val (.int z2), .val (.int (0 : Int32)), .val (.ref b4), .val (.ref b18), .val (.ref b209), .val (.ref b220), .val (.ref b231), .val (.ref b239), .val (.ref b247), .val (.ref b255), .val (.ref b263), .val (.ref b271), .val (.int ((x0 &&& (2147483647 : Int32)) % (7 : Int32))), .unset, .unset, .unset, .unset, .unset] [])) _
            refine own_go (fun t_ k_ => XS.iload X276.here hx rfl (hb hby at_243) rfl k_) ?_
            show own_Goes p e below (T276.setTop (mkF m 245 #[.val (.int x0), .val (.int x1), .val (.int x2), .val (.int x3), .val (.int x4), .val (.int x5), .val (.int z1), .val (.int z2), .val (.int (0 : Int32)), .val (.ref b4), .val (.ref b18), .val (.ref b209), .val (.ref b220), .val (.ref b231), .val (.ref b239), .val (.ref b247), .val (.ref b255), .val (.ref b263), .val (.ref b271), .val (.int ((x0 &&& (2147483647 : Int32)) % (7 : Int32))), .unset, .unset, .unset, .unset, .unset] [(.int ((x0 &&& (2147483647 : Int32)) % (7 : Int32)))])) _
            refine own_go (fun t_ k_ => XS.iconst X276.here hx rfl (hb hby at_245) k_) ?_
            show own_Goes p e below (T276.setTop (mkF m 246 #[.val (.int x0), .val (.int x1), .val (.int x2), .val (.int x3), .val (.int x4), .val (.int x5), .val (.int z1), .val (.int z2), .val (.int (0 : Int32)), .val (.ref b4), .val (.ref b18), .val (.ref b209), .val (.ref b220), .val (.ref b231), .val (.ref b239), .val (.ref b247), .val (.ref b255), .val (.ref b263), .val (.ref b271), .val (.int ((x0 &&& (2147483647 : Int32)) % (7 : Int32))), .unset, .unset, .unset, .unset, .unset] [(.int (1 : Int32)), (.int ((x0 &&& (2147483647 : Int32)) % (7 : Int32)))])) _
            by_cases hc292 : ((x0 &&& (2147483647 : Int32)) % (7 : Int32)) = (1 : Int32)
            · refine own_go (fun t_ k_ => XS.icmpNo X276.here hx rfl (hb hby at_246) rfl (teq hc292).2 k_) ?_
              show own_Goes p e below (T276.setTop (mkF m 249 #[.val (.int x0), .val (.int x1), .val (.int x2), .val (.int x3), .val (.int x4), .val (.int x5), .val (.int z1), .val (.int z2), .val (.int (0 : Int32)), .val (.ref b4), .val (.ref b18), .val (.ref b209), .val (.ref b220), .val (.ref b231), .val (.ref b239), .val (.ref b247), .val (.ref b255), .val (.ref b263), .val (.ref b271), .val (.int ((x0 &&& (2147483647 : Int32)) % (7 : Int32))), .unset, .unset, .unset, .unset, .unset] [])) _
              refine own_go (fun t_ k_ => XS.aload X276.here hx rfl (hb hby at_249) rfl rfl k_) ?_
              show own_Goes p e below (T276.setTop (mkF m 251 #[.val (.int x0), .val (.int x1), .val (.int x2), .val (.int x3), .val (.int x4), .val (.int x5), .val (.int z1), .val (.int z2), .val (.int (0 : Int32)), .val (.ref b4), .val (.ref b18), .val (.ref b209), .val (.ref b220), .val (.ref b231), .val (.ref b239), .val (.ref b247), .val (.ref b255), .val (.ref b263), .val (.ref b271), .val (.int ((x0 &&& (2147483647 : Int32)) % (7 : Int32))), .unset, .unset, .unset, .unset, .unset] [(.ref b263)])) _
              refine own_go (fun t_ k_ => XS.astore X276.here hx rfl (hb hby at_251) rfl rfl (l' := #[.val (.int x0), .val (.int x1), .val (.int x2), .val (.int x3), .val (.int x4), .val (.int x5), .val (.int z1), .val (.int z2), .val (.int (0 : Int32)), .val (.ref b4), .val (.ref b18), .val (.ref b209), .val (.ref b220), .val (.ref b231), .val (.ref b239), .val (.ref b247), .val (.ref b255), .val (.ref b263), .val (.ref b271), .val (.int ((x0 &&& (2147483647 : Int32)) % (7 : Int32))), .val (.ref b263), .unset, .unset, .unset, .unset]) rfl k_) ?_
              show own_Goes p e below (T276.setTop (mkF m 253 #[.val (.int x0), .val (.int x1), .val (.int x2), .val (.int x3), .val (.int x4), .val (.int x5), .val (.int z1), .val (.int z2), .val (.int (0 : Int32)), .val (.ref b4), .val (.ref b18), .val (.ref b209), .val (.ref b220), .val (.ref b231), .val (.ref b239), .val (.ref b247), .val (.ref b255), .val (.ref b263), .val (.ref b271), .val (.int ((x0 &&& (2147483647 : Int32)) % (7 : Int32))), .val (.ref b263), .unset, .unset, .unset, .unset] [])) _
              refine own_go (fun t_ k_ => XS.iconst X276.here hx rfl (hb hby at_253) k_) ?_
              show own_Goes p e below (T276.setTop (mkF m 254 #[.val (.int x0), .val (.int x1), .val (.int x2), .val (.int x3), .val (.int x4), .val (.int x5), .val (.int z1), .val (.int z2), .val (.int (0 : Int32)), .val (.ref b4), .val (.ref b18), .val (.ref b209), .val (.ref b220), .val (.ref b231), .val (.ref b239), .val (.ref b247), .val (.ref b255), .val (.ref b263), .val (.ref b271), .val (.int ((x0 &&& (2147483647 : Int32)) % (7 : Int32))), .val (.ref b263), .unset, .unset, .unset, .unset] [(.int (0 : Int32))])) _
              refine own_go (fun t_ k_ => XS.istore X276.here hx rfl (hb hby at_254) rfl (l' := #[.val (.int x0), .val (.int x1), .val (.int x2), .val (.int x3), .val (.int x4), .val (.int x5), .val (.int z1), .val (.int z2), .val (.int (0 : Int32)), .val (.ref b4), .val (.ref b18), .val (.ref b209), .val (.ref b220), .val (.ref b231), .val (.ref b239), .val (.ref b247), .val (.ref b255), .val (.ref b263), .val (.ref b271), .val (.int ((x0 &&& (2147483647 : Int32)) % (7 : Int32))), .val (.ref b263), .val (.int (0 : Int32)), .unset, .unset, .unset]) rfl k_) ?_
              show own_Goes p e below (T276.setTop (mkF m 256 #[.val (.int x0), .val (.int x1), .val (.int x2), .val (.int x3), .val (.int x4), .val (.int x5), .val (.int z1), .val (.int z2), .val (.int (0 : Int32)), .val (.ref b4), .val (.ref b18), .val (.ref b209), .val (.ref b220), .val (.ref b231), .val (.ref b239), .val (.ref b247), .val (.ref b255), .val (.ref b263), .val (.ref b271), .val (.int ((x0 &&& (2147483647 : Int32)) % (7 : Int32))), .val (.ref b263), .val (.int (0 : Int32)), .unset, .unset, .unset] [])) _
              refine own_go (fun t_ k_ => XS.goto X276.here hx rfl (pc0 := 256) (pc' := 329) rfl (hb hby at_256) (by decide) (by decide) k_) ?_
              show own_Goes p e below (T276.setTop (mkF m 329 #[.val (.int x0), .val (.int x1), .val (.int x2), .val (.int x3), .val (.int x4), .val (.int x5), .val (.int z1), .val (.int z2), .val (.int (0 : Int32)), .val (.ref b4), .val (.ref b18), .val (.ref b209), .val (.ref b220), .val (.ref b231), .val (.ref b239), .val (.ref b247), .val (.ref b255), .val (.ref b263), .val (.ref b271), .val (.int ((x0 &&& (2147483647 : Int32)) % (7 : Int32))), .val (.ref b263), .val (.int (0 : Int32)), .unset, .unset, .unset] [])) _
              refine own_go (fun t_ k_ => XS.aload X276.here hx rfl (hb hby at_329) rfl rfl k_) ?_
              show own_Goes p e below (T276.setTop (mkF m 331 #[.val (.int x0), .val (.int x1), .val (.int x2), .val (.int x3), .val (.int x4), .val (.int x5), .val (.int z1), .val (.int z2), .val (.int (0 : Int32)), .val (.ref b4), .val (.ref b18), .val (.ref b209), .val (.ref b220), .val (.ref b231), .val (.ref b239), .val (.ref b247), .val (.ref b255), .val (.ref b263), .val (.ref b271), .val (.int ((x0 &&& (2147483647 : Int32)) % (7 : Int32))), .val (.ref b263), .val (.int (0 : Int32)), .unset, .unset, .unset] [(.ref b247)])) _
              refine own_go (fun t_ k_ => XS.aload X276.here hx rfl (hb hby at_331) rfl rfl k_) ?_
              show own_Goes p e below (T276.setTop (mkF m 333 #[.val (.int x0), .val (.int x1), .val (.int x2), .val (.int x3), .val (.int x4), .val (.int x5), .val (.int z1), .val (.int z2), .val (.int (0 : Int32)), .val (.ref b4), .val (.ref b18), .val (.ref b209), .val (.ref b220), .val (.ref b231), .val (.ref b239), .val (.ref b247), .val (.ref b255), .val (.ref b263), .val (.ref b271), .val (.int ((x0 &&& (2147483647 : Int32)) % (7 : Int32))), .val (.ref b263), .val (.int (0 : Int32)), .unset, .unset, .unset] [(.ref b263), (.ref b247)])) _
              have f293 := (((A263.keep Kc268).ext E271).keep Kc276)
              have f294 := ((((((c252_0.ext E255).keep Kc260 (ninS (own_ne (a := b247) (b := b255) (by omega)) nin0)).ext E263).keep Kc268 (ninS (own_ne (a := b247) (b := b263) (by omega)) nin0)).ext E271).keep Kc276 (ninS (own_ne (a := b247) (b := b271) (by omega)) nin0))
              have f295 := ((c268_0.ext E271).keep Kc276 (ninS (own_ne (a := b263) (b := b271) (by omega)) nin0))
              have f296 := (((((((A247.keep Kc252).ext E255).keep Kc260).ext E263).keep Kc268).ext E271).keep Kc276)
              obtain ⟨cqiv297, kqiv297, qiv297a, qiv297b, qiv297c⟩ := isOf hZ276 e276 f296
              obtain ⟨_, _, ⟨T298, L298, k298, n298⟩, -, X298, ⟨Lc298, hQ298, l298, y298, z298⟩, st298⟩ := X276.virtualBack hx (y := own_m12) (z := own_m12) hown276 (mvT hZ276 (hw _ (List.mem_of_getElem? (i := 80) rfl))) (mvT hZ276 (hw _ (List.mem_of_getElem? (i := 81) rfl))) (notFace_of_selects (args := #[]) (mvT hZ276 (hw _ (List.mem_of_getElem? (i := 83) rfl)))) (mvT hZ276 (hw _ (List.mem_of_getElem? (i := 83) rfl))) (mvT hZ276 (hw _ (List.mem_of_getElem? (i := 82) rfl))) (by decide) (backOf (W := 0) (own_eqF l Z a0 hw [] b247 b263 b231 b239 h276 n0 O277 f293 f294 f295 (show ¬ b239 = b231 from (by omega))) hZ276 (hw _ (List.mem_of_getElem? (i := 84) rfl)) (hw _ (List.mem_of_getElem? (i := 51) rfl)) (by decide) (by decide)) qiv297a qiv297c (g := (mkF m 333 #[.val (.int x0), .val (.int x1), .val (.int x2), .val (.int x3), .val (.int x4), .val (.int x5), .val (.int z1), .val (.int z2), .val (.int (0 : Int32)), .val (.ref b4), .val (.ref b18), .val (.ref b209), .val (.ref b220), .val (.ref b231), .val (.ref b239), .val (.ref b247), .val (.ref b255), .val (.ref b263), .val (.ref b271), .val (.int ((x0 &&& (2147483647 : Int32)) % (7 : Int32))), .val (.ref b263), .val (.int (0 : Int32)), .unset, .unset, .unset] [(.ref b263), (.ref b247)])) rfl (by rw [hml]; rfl) (Steps.refl _) (argsL := [(.ref b263)]) (rest := []) (lenOf own_pd_11 rfl) rfl (by show 2 * 0 + _ ≤ _; exact Nat.le_of_eq rfl) (hb hby at_333) (fun _ _ => ⟨rfl, e276, (by decide : 24 + 0 ≤ _), (by decide : 168 + 0 ≤ _)⟩)
              dsimp only [Pt.U, Pt.locs, Pt.cells, Pt.slots] at X298 l298 y298 z298 st298 hQ298
              subst l298 y298 z298
              obtain ⟨Nc298, e298, rfl⟩ := hQ298
              have N298 := Fr.app N276 Nc298
              refine own_goS st298 ?_
              show own_Goes p e below (T298.setTop (mkF m 336 #[.val (.int x0), .val (.int x1), .val (.int x2), .val (.int x3), .val (.int x4), .val (.int x5), .val (.int z1), .val (.int z2), .val (.int (0 : Int32)), .val (.ref b4), .val (.ref b18), .val (.ref b209), .val (.ref b220), .val (.ref b231), .val (.ref b239), .val (.ref b247), .val (.ref b255), .val (.ref b263), .val (.ref b271), .val (.int ((x0 &&& (2147483647 : Int32)) % (7 : Int32))), .val (.ref b263), .val (.int (0 : Int32)), .unset, .unset, .unset] [(.int (0 : Int32))])) _
              refine own_go (fun t_ k_ => XS.istore X298.here hx rfl (hb hby at_336) rfl (l' := #[.val (.int x0), .val (.int x1), .val (.int x2), .val (.int x3), .val (.int x4), .val (.int x5), .val (.int z1), .val (.int z2), .val (.int (0 : Int32)), .val (.ref b4), .val (.ref b18), .val (.ref b209), .val (.ref b220), .val (.ref b231), .val (.ref b239), .val (.ref b247), .val (.ref b255), .val (.ref b263), .val (.ref b271), .val (.int ((x0 &&& (2147483647 : Int32)) % (7 : Int32))), .val (.ref b263), .val (.int (0 : Int32)), .val (.int (0 : Int32)), .unset, .unset]) rfl k_) ?_
              show own_Goes p e below (T298.setTop (mkF m 338 #[.val (.int x0), .val (.int x1), .val (.int x2), .val (.int x3), .val (.int x4), .val (.int x5), .val (.int z1), .val (.int z2), .val (.int (0 : Int32)), .val (.ref b4), .val (.ref b18), .val (.ref b209), .val (.ref b220), .val (.ref b231), .val (.ref b239), .val (.ref b247), .val (.ref b255), .val (.ref b263), .val (.ref b271), .val (.int ((x0 &&& (2147483647 : Int32)) % (7 : Int32))), .val (.ref b263), .val (.int (0 : Int32)), .val (.int (0 : Int32)), .unset, .unset] [])) _
              refine own_go (fun t_ k_ => XS.aload X298.here hx rfl (hb hby at_338) rfl rfl k_) ?_
              show own_Goes p e below (T298.setTop (mkF m 340 #[.val (.int x0), .val (.int x1), .val (.int x2), .val (.int x3), .val (.int x4), .val (.int x5), .val (.int z1), .val (.int z2), .val (.int (0 : Int32)), .val (.ref b4), .val (.ref b18), .val (.ref b209), .val (.ref b220), .val (.ref b231), .val (.ref b239), .val (.ref b247), .val (.ref b255), .val (.ref b263), .val (.ref b271), .val (.int ((x0 &&& (2147483647 : Int32)) % (7 : Int32))), .val (.ref b263), .val (.int (0 : Int32)), .val (.int (0 : Int32)), .unset, .unset] [(.ref b255)])) _
              refine own_go (fun t_ k_ => XS.aload X298.here hx rfl (hb hby at_340) rfl rfl k_) ?_
              show own_Goes p e below (T298.setTop (mkF m 342 #[.val (.int x0), .val (.int x1), .val (.int x2), .val (.int x3), .val (.int x4), .val (.int x5), .val (.int z1), .val (.int z2), .val (.int (0 : Int32)), .val (.ref b4), .val (.ref b18), .val (.ref b209), .val (.ref b220), .val (.ref b231), .val (.ref b239), .val (.ref b247), .val (.ref b255), .val (.ref b263), .val (.ref b271), .val (.int ((x0 &&& (2147483647 : Int32)) % (7 : Int32))), .val (.ref b263), .val (.int (0 : Int32)), .val (.int (0 : Int32)), .unset, .unset] [(.ref b247), (.ref b255)])) _
              have f299 := ((((c260_0.ext E263).keep Kc268 (ninS (own_ne (a := b255) (b := b263) (by omega)) nin0)).ext E271).keep Kc276 (ninS (own_ne (a := b255) (b := b271) (by omega)) nin0))
              have f300 := (((((A255.keep Kc260).ext E263).keep Kc268).ext E271).keep Kc276)
              obtain ⟨cqiv301, kqiv301, qiv301a, qiv301b, qiv301c⟩ := isOf hZ276 e298 f300
              obtain ⟨_, _, ⟨T302, L302, k302, n302⟩, -, X302, ⟨Lc302, hQ302, l302, y302, z302⟩, st302⟩ := X298.virtualBack hx (y := own_m12) (z := own_m12) hown276 (mvT hZ276 (hw _ (List.mem_of_getElem? (i := 80) rfl))) (mvT hZ276 (hw _ (List.mem_of_getElem? (i := 81) rfl))) (notFace_of_selects (args := #[]) (mvT hZ276 (hw _ (List.mem_of_getElem? (i := 83) rfl)))) (mvT hZ276 (hw _ (List.mem_of_getElem? (i := 83) rfl))) (mvT hZ276 (hw _ (List.mem_of_getElem? (i := 82) rfl))) (by decide) (backOf (W := 0) (own_eqT l Z a0 hw [] b255 b247 b231 h276 n0 O277 f296 f299 f294) hZ276 (hw _ (List.mem_of_getElem? (i := 84) rfl)) (hw _ (List.mem_of_getElem? (i := 51) rfl)) (by decide) (by decide)) qiv301a qiv301c (g := (mkF m 342 #[.val (.int x0), .val (.int x1), .val (.int x2), .val (.int x3), .val (.int x4), .val (.int x5), .val (.int z1), .val (.int z2), .val (.int (0 : Int32)), .val (.ref b4), .val (.ref b18), .val (.ref b209), .val (.ref b220), .val (.ref b231), .val (.ref b239), .val (.ref b247), .val (.ref b255), .val (.ref b263), .val (.ref b271), .val (.int ((x0 &&& (2147483647 : Int32)) % (7 : Int32))), .val (.ref b263), .val (.int (0 : Int32)), .val (.int (0 : Int32)), .unset, .unset] [(.ref b247), (.ref b255)])) rfl (by rw [hml]; rfl) (Steps.refl _) (argsL := [(.ref b247)]) (rest := []) (lenOf own_pd_11 rfl) rfl (by show 2 * 0 + _ ≤ _; exact Nat.le_of_eq rfl) (hb hby at_342) (fun _ _ => ⟨rfl, e298, (by decide : 24 + 0 ≤ _), (by decide : 168 + 0 ≤ _)⟩)
              dsimp only [Pt.U, Pt.locs, Pt.cells, Pt.slots] at X302 l302 y302 z302 st302 hQ302
              subst l302 y302 z302
              obtain ⟨Nc302, e302, rfl⟩ := hQ302
              have N302 := Fr.app N298 Nc302
              refine own_goS st302 ?_
              show own_Goes p e below (T302.setTop (mkF m 345 #[.val (.int x0), .val (.int x1), .val (.int x2), .val (.int x3), .val (.int x4), .val (.int x5), .val (.int z1), .val (.int z2), .val (.int (0 : Int32)), .val (.ref b4), .val (.ref b18), .val (.ref b209), .val (.ref b220), .val (.ref b231), .val (.ref b239), .val (.ref b247), .val (.ref b255), .val (.ref b263), .val (.ref b271), .val (.int ((x0 &&& (2147483647 : Int32)) % (7 : Int32))), .val (.ref b263), .val (.int (0 : Int32)), .val (.int (0 : Int32)), .unset, .unset] [(.int (1 : Int32))])) _
              refine own_go (fun t_ k_ => XS.istore X302.here hx rfl (hb hby at_345) rfl (l' := #[.val (.int x0), .val (.int x1), .val (.int x2), .val (.int x3), .val (.int x4), .val (.int x5), .val (.int z1), .val (.int z2), .val (.int (0 : Int32)), .val (.ref b4), .val (.ref b18), .val (.ref b209), .val (.ref b220), .val (.ref b231), .val (.ref b239), .val (.ref b247), .val (.ref b255), .val (.ref b263), .val (.ref b271), .val (.int ((x0 &&& (2147483647 : Int32)) % (7 : Int32))), .val (.ref b263), .val (.int (0 : Int32)), .val (.int (0 : Int32)), .val (.int (1 : Int32)), .unset]) rfl k_) ?_
              show own_Goes p e below (T302.setTop (mkF m 347 #[.val (.int x0), .val (.int x1), .val (.int x2), .val (.int x3), .val (.int x4), .val (.int x5), .val (.int z1), .val (.int z2), .val (.int (0 : Int32)), .val (.ref b4), .val (.ref b18), .val (.ref b209), .val (.ref b220), .val (.ref b231), .val (.ref b239), .val (.ref b247), .val (.ref b255), .val (.ref b263), .val (.ref b271), .val (.int ((x0 &&& (2147483647 : Int32)) % (7 : Int32))), .val (.ref b263), .val (.int (0 : Int32)), .val (.int (0 : Int32)), .val (.int (1 : Int32)), .unset] [])) _
              refine own_go (fun t_ k_ => XS.aload X302.here hx rfl (hb hby at_347) rfl rfl k_) ?_
              show own_Goes p e below (T302.setTop (mkF m 349 #[.val (.int x0), .val (.int x1), .val (.int x2), .val (.int x3), .val (.int x4), .val (.int x5), .val (.int z1), .val (.int z2), .val (.int (0 : Int32)), .val (.ref b4), .val (.ref b18), .val (.ref b209), .val (.ref b220), .val (.ref b231), .val (.ref b239), .val (.ref b247), .val (.ref b255), .val (.ref b263), .val (.ref b271), .val (.int ((x0 &&& (2147483647 : Int32)) % (7 : Int32))), .val (.ref b263), .val (.int (0 : Int32)), .val (.int (0 : Int32)), .val (.int (1 : Int32)), .unset] [(.ref b263)])) _
              refine own_go (fun t_ k_ => XS.aload X302.here hx rfl (hb hby at_349) rfl rfl k_) ?_
              show own_Goes p e below (T302.setTop (mkF m 351 #[.val (.int x0), .val (.int x1), .val (.int x2), .val (.int x3), .val (.int x4), .val (.int x5), .val (.int z1), .val (.int z2), .val (.int (0 : Int32)), .val (.ref b4), .val (.ref b18), .val (.ref b209), .val (.ref b220), .val (.ref b231), .val (.ref b239), .val (.ref b247), .val (.ref b255), .val (.ref b263), .val (.ref b271), .val (.int ((x0 &&& (2147483647 : Int32)) % (7 : Int32))), .val (.ref b263), .val (.int (0 : Int32)), .val (.int (0 : Int32)), .val (.int (1 : Int32)), .unset] [(.ref b247), (.ref b263)])) _
              obtain ⟨cqiv303, kqiv303, qiv303a, qiv303b, qiv303c⟩ := isOf hZ276 e302 f293
              obtain ⟨_, _, ⟨T304, L304, k304, n304⟩, -, X304, ⟨Lc304, hQ304, l304, y304, z304⟩, st304⟩ := X302.virtualBack hx (y := own_m12) (z := own_m12) hown276 (mvT hZ276 (hw _ (List.mem_of_getElem? (i := 80) rfl))) (mvT hZ276 (hw _ (List.mem_of_getElem? (i := 81) rfl))) (notFace_of_selects (args := #[]) (mvT hZ276 (hw _ (List.mem_of_getElem? (i := 83) rfl)))) (mvT hZ276 (hw _ (List.mem_of_getElem? (i := 83) rfl))) (mvT hZ276 (hw _ (List.mem_of_getElem? (i := 82) rfl))) (by decide) (backOf (W := 0) (own_eqF l Z a0 hw [] b263 b247 b239 b231 h276 n0 O277 f296 f295 f294 (show ¬ b231 = b239 from (by omega))) hZ276 (hw _ (List.mem_of_getElem? (i := 84) rfl)) (hw _ (List.mem_of_getElem? (i := 51) rfl)) (by decide) (by decide)) qiv303a qiv303c (g := (mkF m 351 #[.val (.int x0), .val (.int x1), .val (.int x2), .val (.int x3), .val (.int x4), .val (.int x5), .val (.int z1), .val (.int z2), .val (.int (0 : Int32)), .val (.ref b4), .val (.ref b18), .val (.ref b209), .val (.ref b220), .val (.ref b231), .val (.ref b239), .val (.ref b247), .val (.ref b255), .val (.ref b263), .val (.ref b271), .val (.int ((x0 &&& (2147483647 : Int32)) % (7 : Int32))), .val (.ref b263), .val (.int (0 : Int32)), .val (.int (0 : Int32)), .val (.int (1 : Int32)), .unset] [(.ref b247), (.ref b263)])) rfl (by rw [hml]; rfl) (Steps.refl _) (argsL := [(.ref b247)]) (rest := []) (lenOf own_pd_11 rfl) rfl (by show 2 * 0 + _ ≤ _; exact Nat.le_of_eq rfl) (hb hby at_351) (fun _ _ => ⟨rfl, e302, (by decide : 24 + 0 ≤ _), (by decide : 168 + 0 ≤ _)⟩)
              dsimp only [Pt.U, Pt.locs, Pt.cells, Pt.slots] at X304 l304 y304 z304 st304 hQ304
              subst l304 y304 z304
              obtain ⟨Nc304, e304, rfl⟩ := hQ304
              have N304 := Fr.app N302 Nc304
              refine own_goS st304 ?_
              show own_Goes p e below (T304.setTop (mkF m 354 #[.val (.int x0), .val (.int x1), .val (.int x2), .val (.int x3), .val (.int x4), .val (.int x5), .val (.int z1), .val (.int z2), .val (.int (0 : Int32)), .val (.ref b4), .val (.ref b18), .val (.ref b209), .val (.ref b220), .val (.ref b231), .val (.ref b239), .val (.ref b247), .val (.ref b255), .val (.ref b263), .val (.ref b271), .val (.int ((x0 &&& (2147483647 : Int32)) % (7 : Int32))), .val (.ref b263), .val (.int (0 : Int32)), .val (.int (0 : Int32)), .val (.int (1 : Int32)), .unset] [(.int (0 : Int32))])) _
              refine own_go (fun t_ k_ => XS.istore X304.here hx rfl (hb hby at_354) rfl (l' := #[.val (.int x0), .val (.int x1), .val (.int x2), .val (.int x3), .val (.int x4), .val (.int x5), .val (.int z1), .val (.int z2), .val (.int (0 : Int32)), .val (.ref b4), .val (.ref b18), .val (.ref b209), .val (.ref b220), .val (.ref b231), .val (.ref b239), .val (.ref b247), .val (.ref b255), .val (.ref b263), .val (.ref b271), .val (.int ((x0 &&& (2147483647 : Int32)) % (7 : Int32))), .val (.ref b263), .val (.int (0 : Int32)), .val (.int (0 : Int32)), .val (.int (1 : Int32)), .val (.int (0 : Int32))]) rfl k_) ?_
              show own_Goes p e below (T304.setTop (mkF m 356 #[.val (.int x0), .val (.int x1), .val (.int x2), .val (.int x3), .val (.int x4), .val (.int x5), .val (.int z1), .val (.int z2), .val (.int (0 : Int32)), .val (.ref b4), .val (.ref b18), .val (.ref b209), .val (.ref b220), .val (.ref b231), .val (.ref b239), .val (.ref b247), .val (.ref b255), .val (.ref b263), .val (.ref b271), .val (.int ((x0 &&& (2147483647 : Int32)) % (7 : Int32))), .val (.ref b263), .val (.int (0 : Int32)), .val (.int (0 : Int32)), .val (.int (1 : Int32)), .val (.int (0 : Int32))] [])) _
              refine own_go (fun t_ k_ => XS.iload X304.here hx rfl (hb hby at_356) rfl k_) ?_
              show own_Goes p e below (T304.setTop (mkF m 358 #[.val (.int x0), .val (.int x1), .val (.int x2), .val (.int x3), .val (.int x4), .val (.int x5), .val (.int z1), .val (.int z2), .val (.int (0 : Int32)), .val (.ref b4), .val (.ref b18), .val (.ref b209), .val (.ref b220), .val (.ref b231), .val (.ref b239), .val (.ref b247), .val (.ref b255), .val (.ref b263), .val (.ref b271), .val (.int ((x0 &&& (2147483647 : Int32)) % (7 : Int32))), .val (.ref b263), .val (.int (0 : Int32)), .val (.int (0 : Int32)), .val (.int (1 : Int32)), .val (.int (0 : Int32))] [(.int (0 : Int32))])) _
              refine own_go (fun t_ k_ => XS.iload X304.here hx rfl (hb hby at_358) rfl k_) ?_
              show own_Goes p e below (T304.setTop (mkF m 360 #[.val (.int x0), .val (.int x1), .val (.int x2), .val (.int x3), .val (.int x4), .val (.int x5), .val (.int z1), .val (.int z2), .val (.int (0 : Int32)), .val (.ref b4), .val (.ref b18), .val (.ref b209), .val (.ref b220), .val (.ref b231), .val (.ref b239), .val (.ref b247), .val (.ref b255), .val (.ref b263), .val (.ref b271), .val (.int ((x0 &&& (2147483647 : Int32)) % (7 : Int32))), .val (.ref b263), .val (.int (0 : Int32)), .val (.int (0 : Int32)), .val (.int (1 : Int32)), .val (.int (0 : Int32))] [(.int (0 : Int32)), (.int (0 : Int32))])) _
              refine own_go (fun t_ k_ => XS.icmpNo X304.here hx rfl (hb hby at_360) rfl (teq (show ((0 : Int32) = (0 : Int32)) from by decide)).2 k_) ?_
              show own_Goes p e below (T304.setTop (mkF m 363 #[.val (.int x0), .val (.int x1), .val (.int x2), .val (.int x3), .val (.int x4), .val (.int x5), .val (.int z1), .val (.int z2), .val (.int (0 : Int32)), .val (.ref b4), .val (.ref b18), .val (.ref b209), .val (.ref b220), .val (.ref b231), .val (.ref b239), .val (.ref b247), .val (.ref b255), .val (.ref b263), .val (.ref b271), .val (.int ((x0 &&& (2147483647 : Int32)) % (7 : Int32))), .val (.ref b263), .val (.int (0 : Int32)), .val (.int (0 : Int32)), .val (.int (1 : Int32)), .val (.int (0 : Int32))] [])) _
              refine own_go (fun t_ k_ => XS.iload X304.here hx rfl (hb hby at_363) rfl k_) ?_
              show own_Goes p e below (T304.setTop (mkF m 365 #[.val (.int x0), .val (.int x1), .val (.int x2), .val (.int x3), .val (.int x4), .val (.int x5), .val (.int z1), .val (.int z2), .val (.int (0 : Int32)), .val (.ref b4), .val (.ref b18), .val (.ref b209), .val (.ref b220), .val (.ref b231), .val (.ref b239), .val (.ref b247), .val (.ref b255), .val (.ref b263), .val (.ref b271), .val (.int ((x0 &&& (2147483647 : Int32)) % (7 : Int32))), .val (.ref b263), .val (.int (0 : Int32)), .val (.int (0 : Int32)), .val (.int (1 : Int32)), .val (.int (0 : Int32))] [(.int (1 : Int32))])) _
              refine own_go (fun t_ k_ => XS.ifNo X304.here hx rfl (hb hby at_365) rfl ((if0 _ _).trans (feq (show ¬ ((1 : Int32) = (0 : Int32)) from by decide)).1) k_) ?_
              show own_Goes p e below (T304.setTop (mkF m 368 #[.val (.int x0), .val (.int x1), .val (.int x2), .val (.int x3), .val (.int x4), .val (.int x5), .val (.int z1), .val (.int z2), .val (.int (0 : Int32)), .val (.ref b4), .val (.ref b18), .val (.ref b209), .val (.ref b220), .val (.ref b231), .val (.ref b239), .val (.ref b247), .val (.ref b255), .val (.ref b263), .val (.ref b271), .val (.int ((x0 &&& (2147483647 : Int32)) % (7 : Int32))), .val (.ref b263), .val (.int (0 : Int32)), .val (.int (0 : Int32)), .val (.int (1 : Int32)), .val (.int (0 : Int32))] [])) _
              refine own_go (fun t_ k_ => XS.iload X304.here hx rfl (hb hby at_368) rfl k_) ?_
              show own_Goes p e below (T304.setTop (mkF m 370 #[.val (.int x0), .val (.int x1), .val (.int x2), .val (.int x3), .val (.int x4), .val (.int x5), .val (.int z1), .val (.int z2), .val (.int (0 : Int32)), .val (.ref b4), .val (.ref b18), .val (.ref b209), .val (.ref b220), .val (.ref b231), .val (.ref b239), .val (.ref b247), .val (.ref b255), .val (.ref b263), .val (.ref b271), .val (.int ((x0 &&& (2147483647 : Int32)) % (7 : Int32))), .val (.ref b263), .val (.int (0 : Int32)), .val (.int (0 : Int32)), .val (.int (1 : Int32)), .val (.int (0 : Int32))] [(.int (0 : Int32))])) _
              refine own_go (fun t_ k_ => XS.ifNo X304.here hx rfl (hb hby at_370) rfl ((if0 _ _).trans (teq (show ((0 : Int32) = (0 : Int32)) from by decide)).2) k_) ?_
              show own_Goes p e below (T304.setTop (mkF m 373 #[.val (.int x0), .val (.int x1), .val (.int x2), .val (.int x3), .val (.int x4), .val (.int x5), .val (.int z1), .val (.int z2), .val (.int (0 : Int32)), .val (.ref b4), .val (.ref b18), .val (.ref b209), .val (.ref b220), .val (.ref b231), .val (.ref b239), .val (.ref b247), .val (.ref b255), .val (.ref b263), .val (.ref b271), .val (.int ((x0 &&& (2147483647 : Int32)) % (7 : Int32))), .val (.ref b263), .val (.int (0 : Int32)), .val (.int (0 : Int32)), .val (.int (1 : Int32)), .val (.int (0 : Int32))] [])) _
              refine own_go (fun t_ k_ => XS.iconst X304.here hx rfl (hb hby at_373) k_) ?_
              show own_Goes p e below (T304.setTop (mkF m 374 #[.val (.int x0), .val (.int x1), .val (.int x2), .val (.int x3), .val (.int x4), .val (.int x5), .val (.int z1), .val (.int z2), .val (.int (0 : Int32)), .val (.ref b4), .val (.ref b18), .val (.ref b209), .val (.ref b220), .val (.ref b231), .val (.ref b239), .val (.ref b247), .val (.ref b255), .val (.ref b263), .val (.ref b271), .val (.int ((x0 &&& (2147483647 : Int32)) % (7 : Int32))), .val (.ref b263), .val (.int (0 : Int32)), .val (.int (0 : Int32)), .val (.int (1 : Int32)), .val (.int (0 : Int32))] [(.int (1 : Int32))])) _
              refine own_go (fun t_ k_ => XS.goto X304.here hx rfl (pc0 := 374) (pc' := 378) rfl (hb hby at_374) (by decide) (by decide) k_) ?_
              show own_Goes p e below (T304.setTop (mkF m 378 #[.val (.int x0), .val (.int x1), .val (.int x2), .val (.int x3), .val (.int x4), .val (.int x5), .val (.int z1), .val (.int z2), .val (.int (0 : Int32)), .val (.ref b4), .val (.ref b18), .val (.ref b209), .val (.ref b220), .val (.ref b231), .val (.ref b239), .val (.ref b247), .val (.ref b255), .val (.ref b263), .val (.ref b271), .val (.int ((x0 &&& (2147483647 : Int32)) % (7 : Int32))), .val (.ref b263), .val (.int (0 : Int32)), .val (.int (0 : Int32)), .val (.int (1 : Int32)), .val (.int (0 : Int32))] [(.int (1 : Int32))])) _
              refine own_endW X304 hS276 (show _ ≤ T304.heap.size by rw [e304]; exact hk276) (v := (some (.int (1 : Int32)))) (fun h => by rw [hret] at h; cases h) hlk (by decide) (by decide) ?_ (fun fs hr => retOut X304 hx hret rfl (Or.inl ⟨rfl, Or.inr (Or.inl rfl), _, rfl⟩) (hb hby at_378) hr)
              show Q_rm0 Z x0 x1 x2 x3 x4 x5 gz h0 n0 _ T304.heap _
              rw [e304]
              exact ⟨N304, trivial, rfl⟩
            · refine own_go (fun t_ k_ => XS.icmpYes X276.here hx rfl (pc0 := 246) (pc' := 259) rfl (hb hby at_246) rfl (feq hc292).2 (by decide) (by decide) k_) ?_
              show own_Goes p e below (T276.setTop (mkF m 259 #[.val (.int x0), .val (.int x1), .val (.int x2), .val (.int x3), .val (.int x4), .val (.int x5), .val (.int z1), .val (.int z2), .val (.int (0 : Int32)), .val (.ref b4), .val (.ref b18), .val (.ref b209), .val (.ref b220), .val (.ref b231), .val (.ref b239), .val (.ref b247), .val (.ref b255), .val (.ref b263), .val (.ref b271), .val (.int ((x0 &&& (2147483647 : Int32)) % (7 : Int32))), .unset, .unset, .unset, .unset, .unset] [])) _
              refine own_go (fun t_ k_ => XS.iload X276.here hx rfl (hb hby at_259) rfl k_) ?_
              show own_Goes p e below (T276.setTop (mkF m 261 #[.val (.int x0), .val (.int x1), .val (.int x2), .val (.int x3), .val (.int x4), .val (.int x5), .val (.int z1), .val (.int z2), .val (.int (0 : Int32)), .val (.ref b4), .val (.ref b18), .val (.ref b209), .val (.ref b220), .val (.ref b231), .val (.ref b239), .val (.ref b247), .val (.ref b255), .val (.ref b263), .val (.ref b271), .val (.int ((x0 &&& (2147483647 : Int32)) % (7 : Int32))), .unset, .unset, .unset, .unset, .unset] [(.int ((x0 &&& (2147483647 : Int32)) % (7 : Int32)))])) _
              refine own_go (fun t_ k_ => XS.iconst X276.here hx rfl (hb hby at_261) k_) ?_
              show own_Goes p e below (T276.setTop (mkF m 262 #[.val (.int x0), .val (.int x1), .val (.int x2), .val (.int x3), .val (.int x4), .val (.int x5), .val (.int z1), .val (.int z2), .val (.int (0 : Int32)), .val (.ref b4), .val (.ref b18), .val (.ref b209), .val (.ref b220), .val (.ref b231), .val (.ref b239), .val (.ref b247), .val (.ref b255), .val (.ref b263), .val (.ref b271), .val (.int ((x0 &&& (2147483647 : Int32)) % (7 : Int32))), .unset, .unset, .unset, .unset, .unset] [(.int (2 : Int32)), (.int ((x0 &&& (2147483647 : Int32)) % (7 : Int32)))])) _
              by_cases hc305 : ((x0 &&& (2147483647 : Int32)) % (7 : Int32)) = (2 : Int32)
              · refine own_go (fun t_ k_ => XS.icmpNo X276.here hx rfl (hb hby at_262) rfl (teq hc305).2 k_) ?_
                show own_Goes p e below (T276.setTop (mkF m 265 #[.val (.int x0), .val (.int x1), .val (.int x2), .val (.int x3), .val (.int x4), .val (.int x5), .val (.int z1), .val (.int z2), .val (.int (0 : Int32)), .val (.ref b4), .val (.ref b18), .val (.ref b209), .val (.ref b220), .val (.ref b231), .val (.ref b239), .val (.ref b247), .val (.ref b255), .val (.ref b263), .val (.ref b271), .val (.int ((x0 &&& (2147483647 : Int32)) % (7 : Int32))), .unset, .unset, .unset, .unset, .unset] [])) _
                refine own_go (fun t_ k_ => XS.aload X276.here hx rfl (hb hby at_265) rfl rfl k_) ?_
                show own_Goes p e below (T276.setTop (mkF m 267 #[.val (.int x0), .val (.int x1), .val (.int x2), .val (.int x3), .val (.int x4), .val (.int x5), .val (.int z1), .val (.int z2), .val (.int (0 : Int32)), .val (.ref b4), .val (.ref b18), .val (.ref b209), .val (.ref b220), .val (.ref b231), .val (.ref b239), .val (.ref b247), .val (.ref b255), .val (.ref b263), .val (.ref b271), .val (.int ((x0 &&& (2147483647 : Int32)) % (7 : Int32))), .unset, .unset, .unset, .unset, .unset] [(.ref b247)])) _
                refine own_go (fun t_ k_ => XS.astore X276.here hx rfl (hb hby at_267) rfl rfl (l' := #[.val (.int x0), .val (.int x1), .val (.int x2), .val (.int x3), .val (.int x4), .val (.int x5), .val (.int z1), .val (.int z2), .val (.int (0 : Int32)), .val (.ref b4), .val (.ref b18), .val (.ref b209), .val (.ref b220), .val (.ref b231), .val (.ref b239), .val (.ref b247), .val (.ref b255), .val (.ref b263), .val (.ref b271), .val (.int ((x0 &&& (2147483647 : Int32)) % (7 : Int32))), .val (.ref b247), .unset, .unset, .unset, .unset]) rfl k_) ?_
                show own_Goes p e below (T276.setTop (mkF m 269 #[.val (.int x0), .val (.int x1), .val (.int x2), .val (.int x3), .val (.int x4), .val (.int x5), .val (.int z1), .val (.int z2), .val (.int (0 : Int32)), .val (.ref b4), .val (.ref b18), .val (.ref b209), .val (.ref b220), .val (.ref b231), .val (.ref b239), .val (.ref b247), .val (.ref b255), .val (.ref b263), .val (.ref b271), .val (.int ((x0 &&& (2147483647 : Int32)) % (7 : Int32))), .val (.ref b247), .unset, .unset, .unset, .unset] [])) _
                refine own_go (fun t_ k_ => XS.iconst X276.here hx rfl (hb hby at_269) k_) ?_
                show own_Goes p e below (T276.setTop (mkF m 270 #[.val (.int x0), .val (.int x1), .val (.int x2), .val (.int x3), .val (.int x4), .val (.int x5), .val (.int z1), .val (.int z2), .val (.int (0 : Int32)), .val (.ref b4), .val (.ref b18), .val (.ref b209), .val (.ref b220), .val (.ref b231), .val (.ref b239), .val (.ref b247), .val (.ref b255), .val (.ref b263), .val (.ref b271), .val (.int ((x0 &&& (2147483647 : Int32)) % (7 : Int32))), .val (.ref b247), .unset, .unset, .unset, .unset] [(.int (1 : Int32))])) _
                refine own_go (fun t_ k_ => XS.istore X276.here hx rfl (hb hby at_270) rfl (l' := #[.val (.int x0), .val (.int x1), .val (.int x2), .val (.int x3), .val (.int x4), .val (.int x5), .val (.int z1), .val (.int z2), .val (.int (0 : Int32)), .val (.ref b4), .val (.ref b18), .val (.ref b209), .val (.ref b220), .val (.ref b231), .val (.ref b239), .val (.ref b247), .val (.ref b255), .val (.ref b263), .val (.ref b271), .val (.int ((x0 &&& (2147483647 : Int32)) % (7 : Int32))), .val (.ref b247), .val (.int (1 : Int32)), .unset, .unset, .unset]) rfl k_) ?_
                show own_Goes p e below (T276.setTop (mkF m 272 #[.val (.int x0), .val (.int x1), .val (.int x2), .val (.int x3), .val (.int x4), .val (.int x5), .val (.int z1), .val (.int z2), .val (.int (0 : Int32)), .val (.ref b4), .val (.ref b18), .val (.ref b209), .val (.ref b220), .val (.ref b231), .val (.ref b239), .val (.ref b247), .val (.ref b255), .val (.ref b263), .val (.ref b271), .val (.int ((x0 &&& (2147483647 : Int32)) % (7 : Int32))), .val (.ref b247), .val (.int (1 : Int32)), .unset, .unset, .unset] [])) _
                refine own_go (fun t_ k_ => XS.goto X276.here hx rfl (pc0 := 272) (pc' := 329) rfl (hb hby at_272) (by decide) (by decide) k_) ?_
                show own_Goes p e below (T276.setTop (mkF m 329 #[.val (.int x0), .val (.int x1), .val (.int x2), .val (.int x3), .val (.int x4), .val (.int x5), .val (.int z1), .val (.int z2), .val (.int (0 : Int32)), .val (.ref b4), .val (.ref b18), .val (.ref b209), .val (.ref b220), .val (.ref b231), .val (.ref b239), .val (.ref b247), .val (.ref b255), .val (.ref b263), .val (.ref b271), .val (.int ((x0 &&& (2147483647 : Int32)) % (7 : Int32))), .val (.ref b247), .val (.int (1 : Int32)), .unset, .unset, .unset] [])) _
                refine own_go (fun t_ k_ => XS.aload X276.here hx rfl (hb hby at_329) rfl rfl k_) ?_
                show own_Goes p e below (T276.setTop (mkF m 331 #[.val (.int x0), .val (.int x1), .val (.int x2), .val (.int x3), .val (.int x4), .val (.int x5), .val (.int z1), .val (.int z2), .val (.int (0 : Int32)), .val (.ref b4), .val (.ref b18), .val (.ref b209), .val (.ref b220), .val (.ref b231), .val (.ref b239), .val (.ref b247), .val (.ref b255), .val (.ref b263), .val (.ref b271), .val (.int ((x0 &&& (2147483647 : Int32)) % (7 : Int32))), .val (.ref b247), .val (.int (1 : Int32)), .unset, .unset, .unset] [(.ref b247)])) _
                refine own_go (fun t_ k_ => XS.aload X276.here hx rfl (hb hby at_331) rfl rfl k_) ?_
                show own_Goes p e below (T276.setTop (mkF m 333 #[.val (.int x0), .val (.int x1), .val (.int x2), .val (.int x3), .val (.int x4), .val (.int x5), .val (.int z1), .val (.int z2), .val (.int (0 : Int32)), .val (.ref b4), .val (.ref b18), .val (.ref b209), .val (.ref b220), .val (.ref b231), .val (.ref b239), .val (.ref b247), .val (.ref b255), .val (.ref b263), .val (.ref b271), .val (.int ((x0 &&& (2147483647 : Int32)) % (7 : Int32))), .val (.ref b247), .val (.int (1 : Int32)), .unset, .unset, .unset] [(.ref b247), (.ref b247)])) _
                have f306 := (((((((A247.keep Kc252).ext E255).keep Kc260).ext E263).keep Kc268).ext E271).keep Kc276)
                have f307 := ((((((c252_0.ext E255).keep Kc260 (ninS (own_ne (a := b247) (b := b255) (by omega)) nin0)).ext E263).keep Kc268 (ninS (own_ne (a := b247) (b := b263) (by omega)) nin0)).ext E271).keep Kc276 (ninS (own_ne (a := b247) (b := b271) (by omega)) nin0))
                obtain ⟨cqiv308, kqiv308, qiv308a, qiv308b, qiv308c⟩ := isOf hZ276 e276 f306
                obtain ⟨_, _, ⟨T309, L309, k309, n309⟩, -, X309, ⟨Lc309, hQ309, l309, y309, z309⟩, st309⟩ := X276.virtualBack hx (y := own_m12) (z := own_m12) hown276 (mvT hZ276 (hw _ (List.mem_of_getElem? (i := 80) rfl))) (mvT hZ276 (hw _ (List.mem_of_getElem? (i := 81) rfl))) (notFace_of_selects (args := #[]) (mvT hZ276 (hw _ (List.mem_of_getElem? (i := 83) rfl)))) (mvT hZ276 (hw _ (List.mem_of_getElem? (i := 83) rfl))) (mvT hZ276 (hw _ (List.mem_of_getElem? (i := 82) rfl))) (by decide) (backOf (W := 0) (own_eqT l Z a0 hw [] b247 b247 b231 h276 n0 O277 f306 f307 f307) hZ276 (hw _ (List.mem_of_getElem? (i := 84) rfl)) (hw _ (List.mem_of_getElem? (i := 51) rfl)) (by decide) (by decide)) qiv308a qiv308c (g := (mkF m 333 #[.val (.int x0), .val (.int x1), .val (.int x2), .val (.int x3), .val (.int x4), .val (.int x5), .val (.int z1), .val (.int z2), .val (.int (0 : Int32)), .val (.ref b4), .val (.ref b18), .val (.ref b209), .val (.ref b220), .val (.ref b231), .val (.ref b239), .val (.ref b247), .val (.ref b255), .val (.ref b263), .val (.ref b271), .val (.int ((x0 &&& (2147483647 : Int32)) % (7 : Int32))), .val (.ref b247), .val (.int (1 : Int32)), .unset, .unset, .unset] [(.ref b247), (.ref b247)])) rfl (by rw [hml]; rfl) (Steps.refl _) (argsL := [(.ref b247)]) (rest := []) (lenOf own_pd_11 rfl) rfl (by show 2 * 0 + _ ≤ _; exact Nat.le_of_eq rfl) (hb hby at_333) (fun _ _ => ⟨rfl, e276, (by decide : 24 + 0 ≤ _), (by decide : 168 + 0 ≤ _)⟩)
                dsimp only [Pt.U, Pt.locs, Pt.cells, Pt.slots] at X309 l309 y309 z309 st309 hQ309
                subst l309 y309 z309
                obtain ⟨Nc309, e309, rfl⟩ := hQ309
                have N309 := Fr.app N276 Nc309
                refine own_goS st309 ?_
                show own_Goes p e below (T309.setTop (mkF m 336 #[.val (.int x0), .val (.int x1), .val (.int x2), .val (.int x3), .val (.int x4), .val (.int x5), .val (.int z1), .val (.int z2), .val (.int (0 : Int32)), .val (.ref b4), .val (.ref b18), .val (.ref b209), .val (.ref b220), .val (.ref b231), .val (.ref b239), .val (.ref b247), .val (.ref b255), .val (.ref b263), .val (.ref b271), .val (.int ((x0 &&& (2147483647 : Int32)) % (7 : Int32))), .val (.ref b247), .val (.int (1 : Int32)), .unset, .unset, .unset] [(.int (1 : Int32))])) _
                refine own_go (fun t_ k_ => XS.istore X309.here hx rfl (hb hby at_336) rfl (l' := #[.val (.int x0), .val (.int x1), .val (.int x2), .val (.int x3), .val (.int x4), .val (.int x5), .val (.int z1), .val (.int z2), .val (.int (0 : Int32)), .val (.ref b4), .val (.ref b18), .val (.ref b209), .val (.ref b220), .val (.ref b231), .val (.ref b239), .val (.ref b247), .val (.ref b255), .val (.ref b263), .val (.ref b271), .val (.int ((x0 &&& (2147483647 : Int32)) % (7 : Int32))), .val (.ref b247), .val (.int (1 : Int32)), .val (.int (1 : Int32)), .unset, .unset]) rfl k_) ?_
                show own_Goes p e below (T309.setTop (mkF m 338 #[.val (.int x0), .val (.int x1), .val (.int x2), .val (.int x3), .val (.int x4), .val (.int x5), .val (.int z1), .val (.int z2), .val (.int (0 : Int32)), .val (.ref b4), .val (.ref b18), .val (.ref b209), .val (.ref b220), .val (.ref b231), .val (.ref b239), .val (.ref b247), .val (.ref b255), .val (.ref b263), .val (.ref b271), .val (.int ((x0 &&& (2147483647 : Int32)) % (7 : Int32))), .val (.ref b247), .val (.int (1 : Int32)), .val (.int (1 : Int32)), .unset, .unset] [])) _
                refine own_go (fun t_ k_ => XS.aload X309.here hx rfl (hb hby at_338) rfl rfl k_) ?_
                show own_Goes p e below (T309.setTop (mkF m 340 #[.val (.int x0), .val (.int x1), .val (.int x2), .val (.int x3), .val (.int x4), .val (.int x5), .val (.int z1), .val (.int z2), .val (.int (0 : Int32)), .val (.ref b4), .val (.ref b18), .val (.ref b209), .val (.ref b220), .val (.ref b231), .val (.ref b239), .val (.ref b247), .val (.ref b255), .val (.ref b263), .val (.ref b271), .val (.int ((x0 &&& (2147483647 : Int32)) % (7 : Int32))), .val (.ref b247), .val (.int (1 : Int32)), .val (.int (1 : Int32)), .unset, .unset] [(.ref b255)])) _
                refine own_go (fun t_ k_ => XS.aload X309.here hx rfl (hb hby at_340) rfl rfl k_) ?_
                show own_Goes p e below (T309.setTop (mkF m 342 #[.val (.int x0), .val (.int x1), .val (.int x2), .val (.int x3), .val (.int x4), .val (.int x5), .val (.int z1), .val (.int z2), .val (.int (0 : Int32)), .val (.ref b4), .val (.ref b18), .val (.ref b209), .val (.ref b220), .val (.ref b231), .val (.ref b239), .val (.ref b247), .val (.ref b255), .val (.ref b263), .val (.ref b271), .val (.int ((x0 &&& (2147483647 : Int32)) % (7 : Int32))), .val (.ref b247), .val (.int (1 : Int32)), .val (.int (1 : Int32)), .unset, .unset] [(.ref b247), (.ref b255)])) _
                have f310 := ((((c260_0.ext E263).keep Kc268 (ninS (own_ne (a := b255) (b := b263) (by omega)) nin0)).ext E271).keep Kc276 (ninS (own_ne (a := b255) (b := b271) (by omega)) nin0))
                have f311 := (((((A255.keep Kc260).ext E263).keep Kc268).ext E271).keep Kc276)
                obtain ⟨cqiv312, kqiv312, qiv312a, qiv312b, qiv312c⟩ := isOf hZ276 e309 f311
                obtain ⟨_, _, ⟨T313, L313, k313, n313⟩, -, X313, ⟨Lc313, hQ313, l313, y313, z313⟩, st313⟩ := X309.virtualBack hx (y := own_m12) (z := own_m12) hown276 (mvT hZ276 (hw _ (List.mem_of_getElem? (i := 80) rfl))) (mvT hZ276 (hw _ (List.mem_of_getElem? (i := 81) rfl))) (notFace_of_selects (args := #[]) (mvT hZ276 (hw _ (List.mem_of_getElem? (i := 83) rfl)))) (mvT hZ276 (hw _ (List.mem_of_getElem? (i := 83) rfl))) (mvT hZ276 (hw _ (List.mem_of_getElem? (i := 82) rfl))) (by decide) (backOf (W := 0) (own_eqT l Z a0 hw [] b255 b247 b231 h276 n0 O277 f306 f310 f307) hZ276 (hw _ (List.mem_of_getElem? (i := 84) rfl)) (hw _ (List.mem_of_getElem? (i := 51) rfl)) (by decide) (by decide)) qiv312a qiv312c (g := (mkF m 342 #[.val (.int x0), .val (.int x1), .val (.int x2), .val (.int x3), .val (.int x4), .val (.int x5), .val (.int z1), .val (.int z2), .val (.int (0 : Int32)), .val (.ref b4), .val (.ref b18), .val (.ref b209), .val (.ref b220), .val (.ref b231), .val (.ref b239), .val (.ref b247), .val (.ref b255), .val (.ref b263), .val (.ref b271), .val (.int ((x0 &&& (2147483647 : Int32)) % (7 : Int32))), .val (.ref b247), .val (.int (1 : Int32)), .val (.int (1 : Int32)), .unset, .unset] [(.ref b247), (.ref b255)])) rfl (by rw [hml]; rfl) (Steps.refl _) (argsL := [(.ref b247)]) (rest := []) (lenOf own_pd_11 rfl) rfl (by show 2 * 0 + _ ≤ _; exact Nat.le_of_eq rfl) (hb hby at_342) (fun _ _ => ⟨rfl, e309, (by decide : 24 + 0 ≤ _), (by decide : 168 + 0 ≤ _)⟩)
                dsimp only [Pt.U, Pt.locs, Pt.cells, Pt.slots] at X313 l313 y313 z313 st313 hQ313
                subst l313 y313 z313
                obtain ⟨Nc313, e313, rfl⟩ := hQ313
                have N313 := Fr.app N309 Nc313
                refine own_goS st313 ?_
                show own_Goes p e below (T313.setTop (mkF m 345 #[.val (.int x0), .val (.int x1), .val (.int x2), .val (.int x3), .val (.int x4), .val (.int x5), .val (.int z1), .val (.int z2), .val (.int (0 : Int32)), .val (.ref b4), .val (.ref b18), .val (.ref b209), .val (.ref b220), .val (.ref b231), .val (.ref b239), .val (.ref b247), .val (.ref b255), .val (.ref b263), .val (.ref b271), .val (.int ((x0 &&& (2147483647 : Int32)) % (7 : Int32))), .val (.ref b247), .val (.int (1 : Int32)), .val (.int (1 : Int32)), .unset, .unset] [(.int (1 : Int32))])) _
                refine own_go (fun t_ k_ => XS.istore X313.here hx rfl (hb hby at_345) rfl (l' := #[.val (.int x0), .val (.int x1), .val (.int x2), .val (.int x3), .val (.int x4), .val (.int x5), .val (.int z1), .val (.int z2), .val (.int (0 : Int32)), .val (.ref b4), .val (.ref b18), .val (.ref b209), .val (.ref b220), .val (.ref b231), .val (.ref b239), .val (.ref b247), .val (.ref b255), .val (.ref b263), .val (.ref b271), .val (.int ((x0 &&& (2147483647 : Int32)) % (7 : Int32))), .val (.ref b247), .val (.int (1 : Int32)), .val (.int (1 : Int32)), .val (.int (1 : Int32)), .unset]) rfl k_) ?_
                show own_Goes p e below (T313.setTop (mkF m 347 #[.val (.int x0), .val (.int x1), .val (.int x2), .val (.int x3), .val (.int x4), .val (.int x5), .val (.int z1), .val (.int z2), .val (.int (0 : Int32)), .val (.ref b4), .val (.ref b18), .val (.ref b209), .val (.ref b220), .val (.ref b231), .val (.ref b239), .val (.ref b247), .val (.ref b255), .val (.ref b263), .val (.ref b271), .val (.int ((x0 &&& (2147483647 : Int32)) % (7 : Int32))), .val (.ref b247), .val (.int (1 : Int32)), .val (.int (1 : Int32)), .val (.int (1 : Int32)), .unset] [])) _
                refine own_go (fun t_ k_ => XS.aload X313.here hx rfl (hb hby at_347) rfl rfl k_) ?_
                show own_Goes p e below (T313.setTop (mkF m 349 #[.val (.int x0), .val (.int x1), .val (.int x2), .val (.int x3), .val (.int x4), .val (.int x5), .val (.int z1), .val (.int z2), .val (.int (0 : Int32)), .val (.ref b4), .val (.ref b18), .val (.ref b209), .val (.ref b220), .val (.ref b231), .val (.ref b239), .val (.ref b247), .val (.ref b255), .val (.ref b263), .val (.ref b271), .val (.int ((x0 &&& (2147483647 : Int32)) % (7 : Int32))), .val (.ref b247), .val (.int (1 : Int32)), .val (.int (1 : Int32)), .val (.int (1 : Int32)), .unset] [(.ref b263)])) _
                refine own_go (fun t_ k_ => XS.aload X313.here hx rfl (hb hby at_349) rfl rfl k_) ?_
                show own_Goes p e below (T313.setTop (mkF m 351 #[.val (.int x0), .val (.int x1), .val (.int x2), .val (.int x3), .val (.int x4), .val (.int x5), .val (.int z1), .val (.int z2), .val (.int (0 : Int32)), .val (.ref b4), .val (.ref b18), .val (.ref b209), .val (.ref b220), .val (.ref b231), .val (.ref b239), .val (.ref b247), .val (.ref b255), .val (.ref b263), .val (.ref b271), .val (.int ((x0 &&& (2147483647 : Int32)) % (7 : Int32))), .val (.ref b247), .val (.int (1 : Int32)), .val (.int (1 : Int32)), .val (.int (1 : Int32)), .unset] [(.ref b247), (.ref b263)])) _
                have f314 := ((c268_0.ext E271).keep Kc276 (ninS (own_ne (a := b263) (b := b271) (by omega)) nin0))
                have f315 := (((A263.keep Kc268).ext E271).keep Kc276)
                obtain ⟨cqiv316, kqiv316, qiv316a, qiv316b, qiv316c⟩ := isOf hZ276 e313 f315
                obtain ⟨_, _, ⟨T317, L317, k317, n317⟩, -, X317, ⟨Lc317, hQ317, l317, y317, z317⟩, st317⟩ := X313.virtualBack hx (y := own_m12) (z := own_m12) hown276 (mvT hZ276 (hw _ (List.mem_of_getElem? (i := 80) rfl))) (mvT hZ276 (hw _ (List.mem_of_getElem? (i := 81) rfl))) (notFace_of_selects (args := #[]) (mvT hZ276 (hw _ (List.mem_of_getElem? (i := 83) rfl)))) (mvT hZ276 (hw _ (List.mem_of_getElem? (i := 83) rfl))) (mvT hZ276 (hw _ (List.mem_of_getElem? (i := 82) rfl))) (by decide) (backOf (W := 0) (own_eqF l Z a0 hw [] b263 b247 b239 b231 h276 n0 O277 f306 f314 f307 (show ¬ b231 = b239 from (by omega))) hZ276 (hw _ (List.mem_of_getElem? (i := 84) rfl)) (hw _ (List.mem_of_getElem? (i := 51) rfl)) (by decide) (by decide)) qiv316a qiv316c (g := (mkF m 351 #[.val (.int x0), .val (.int x1), .val (.int x2), .val (.int x3), .val (.int x4), .val (.int x5), .val (.int z1), .val (.int z2), .val (.int (0 : Int32)), .val (.ref b4), .val (.ref b18), .val (.ref b209), .val (.ref b220), .val (.ref b231), .val (.ref b239), .val (.ref b247), .val (.ref b255), .val (.ref b263), .val (.ref b271), .val (.int ((x0 &&& (2147483647 : Int32)) % (7 : Int32))), .val (.ref b247), .val (.int (1 : Int32)), .val (.int (1 : Int32)), .val (.int (1 : Int32)), .unset] [(.ref b247), (.ref b263)])) rfl (by rw [hml]; rfl) (Steps.refl _) (argsL := [(.ref b247)]) (rest := []) (lenOf own_pd_11 rfl) rfl (by show 2 * 0 + _ ≤ _; exact Nat.le_of_eq rfl) (hb hby at_351) (fun _ _ => ⟨rfl, e313, (by decide : 24 + 0 ≤ _), (by decide : 168 + 0 ≤ _)⟩)
                dsimp only [Pt.U, Pt.locs, Pt.cells, Pt.slots] at X317 l317 y317 z317 st317 hQ317
                subst l317 y317 z317
                obtain ⟨Nc317, e317, rfl⟩ := hQ317
                have N317 := Fr.app N313 Nc317
                refine own_goS st317 ?_
                show own_Goes p e below (T317.setTop (mkF m 354 #[.val (.int x0), .val (.int x1), .val (.int x2), .val (.int x3), .val (.int x4), .val (.int x5), .val (.int z1), .val (.int z2), .val (.int (0 : Int32)), .val (.ref b4), .val (.ref b18), .val (.ref b209), .val (.ref b220), .val (.ref b231), .val (.ref b239), .val (.ref b247), .val (.ref b255), .val (.ref b263), .val (.ref b271), .val (.int ((x0 &&& (2147483647 : Int32)) % (7 : Int32))), .val (.ref b247), .val (.int (1 : Int32)), .val (.int (1 : Int32)), .val (.int (1 : Int32)), .unset] [(.int (0 : Int32))])) _
                refine own_go (fun t_ k_ => XS.istore X317.here hx rfl (hb hby at_354) rfl (l' := #[.val (.int x0), .val (.int x1), .val (.int x2), .val (.int x3), .val (.int x4), .val (.int x5), .val (.int z1), .val (.int z2), .val (.int (0 : Int32)), .val (.ref b4), .val (.ref b18), .val (.ref b209), .val (.ref b220), .val (.ref b231), .val (.ref b239), .val (.ref b247), .val (.ref b255), .val (.ref b263), .val (.ref b271), .val (.int ((x0 &&& (2147483647 : Int32)) % (7 : Int32))), .val (.ref b247), .val (.int (1 : Int32)), .val (.int (1 : Int32)), .val (.int (1 : Int32)), .val (.int (0 : Int32))]) rfl k_) ?_
                show own_Goes p e below (T317.setTop (mkF m 356 #[.val (.int x0), .val (.int x1), .val (.int x2), .val (.int x3), .val (.int x4), .val (.int x5), .val (.int z1), .val (.int z2), .val (.int (0 : Int32)), .val (.ref b4), .val (.ref b18), .val (.ref b209), .val (.ref b220), .val (.ref b231), .val (.ref b239), .val (.ref b247), .val (.ref b255), .val (.ref b263), .val (.ref b271), .val (.int ((x0 &&& (2147483647 : Int32)) % (7 : Int32))), .val (.ref b247), .val (.int (1 : Int32)), .val (.int (1 : Int32)), .val (.int (1 : Int32)), .val (.int (0 : Int32))] [])) _
                refine own_go (fun t_ k_ => XS.iload X317.here hx rfl (hb hby at_356) rfl k_) ?_
                show own_Goes p e below (T317.setTop (mkF m 358 #[.val (.int x0), .val (.int x1), .val (.int x2), .val (.int x3), .val (.int x4), .val (.int x5), .val (.int z1), .val (.int z2), .val (.int (0 : Int32)), .val (.ref b4), .val (.ref b18), .val (.ref b209), .val (.ref b220), .val (.ref b231), .val (.ref b239), .val (.ref b247), .val (.ref b255), .val (.ref b263), .val (.ref b271), .val (.int ((x0 &&& (2147483647 : Int32)) % (7 : Int32))), .val (.ref b247), .val (.int (1 : Int32)), .val (.int (1 : Int32)), .val (.int (1 : Int32)), .val (.int (0 : Int32))] [(.int (1 : Int32))])) _
                refine own_go (fun t_ k_ => XS.iload X317.here hx rfl (hb hby at_358) rfl k_) ?_
                show own_Goes p e below (T317.setTop (mkF m 360 #[.val (.int x0), .val (.int x1), .val (.int x2), .val (.int x3), .val (.int x4), .val (.int x5), .val (.int z1), .val (.int z2), .val (.int (0 : Int32)), .val (.ref b4), .val (.ref b18), .val (.ref b209), .val (.ref b220), .val (.ref b231), .val (.ref b239), .val (.ref b247), .val (.ref b255), .val (.ref b263), .val (.ref b271), .val (.int ((x0 &&& (2147483647 : Int32)) % (7 : Int32))), .val (.ref b247), .val (.int (1 : Int32)), .val (.int (1 : Int32)), .val (.int (1 : Int32)), .val (.int (0 : Int32))] [(.int (1 : Int32)), (.int (1 : Int32))])) _
                refine own_go (fun t_ k_ => XS.icmpNo X317.here hx rfl (hb hby at_360) rfl (teq (show ((1 : Int32) = (1 : Int32)) from by decide)).2 k_) ?_
                show own_Goes p e below (T317.setTop (mkF m 363 #[.val (.int x0), .val (.int x1), .val (.int x2), .val (.int x3), .val (.int x4), .val (.int x5), .val (.int z1), .val (.int z2), .val (.int (0 : Int32)), .val (.ref b4), .val (.ref b18), .val (.ref b209), .val (.ref b220), .val (.ref b231), .val (.ref b239), .val (.ref b247), .val (.ref b255), .val (.ref b263), .val (.ref b271), .val (.int ((x0 &&& (2147483647 : Int32)) % (7 : Int32))), .val (.ref b247), .val (.int (1 : Int32)), .val (.int (1 : Int32)), .val (.int (1 : Int32)), .val (.int (0 : Int32))] [])) _
                refine own_go (fun t_ k_ => XS.iload X317.here hx rfl (hb hby at_363) rfl k_) ?_
                show own_Goes p e below (T317.setTop (mkF m 365 #[.val (.int x0), .val (.int x1), .val (.int x2), .val (.int x3), .val (.int x4), .val (.int x5), .val (.int z1), .val (.int z2), .val (.int (0 : Int32)), .val (.ref b4), .val (.ref b18), .val (.ref b209), .val (.ref b220), .val (.ref b231), .val (.ref b239), .val (.ref b247), .val (.ref b255), .val (.ref b263), .val (.ref b271), .val (.int ((x0 &&& (2147483647 : Int32)) % (7 : Int32))), .val (.ref b247), .val (.int (1 : Int32)), .val (.int (1 : Int32)), .val (.int (1 : Int32)), .val (.int (0 : Int32))] [(.int (1 : Int32))])) _
                refine own_go (fun t_ k_ => XS.ifNo X317.here hx rfl (hb hby at_365) rfl ((if0 _ _).trans (feq (show ¬ ((1 : Int32) = (0 : Int32)) from by decide)).1) k_) ?_
                show own_Goes p e below (T317.setTop (mkF m 368 #[.val (.int x0), .val (.int x1), .val (.int x2), .val (.int x3), .val (.int x4), .val (.int x5), .val (.int z1), .val (.int z2), .val (.int (0 : Int32)), .val (.ref b4), .val (.ref b18), .val (.ref b209), .val (.ref b220), .val (.ref b231), .val (.ref b239), .val (.ref b247), .val (.ref b255), .val (.ref b263), .val (.ref b271), .val (.int ((x0 &&& (2147483647 : Int32)) % (7 : Int32))), .val (.ref b247), .val (.int (1 : Int32)), .val (.int (1 : Int32)), .val (.int (1 : Int32)), .val (.int (0 : Int32))] [])) _
                refine own_go (fun t_ k_ => XS.iload X317.here hx rfl (hb hby at_368) rfl k_) ?_
                show own_Goes p e below (T317.setTop (mkF m 370 #[.val (.int x0), .val (.int x1), .val (.int x2), .val (.int x3), .val (.int x4), .val (.int x5), .val (.int z1), .val (.int z2), .val (.int (0 : Int32)), .val (.ref b4), .val (.ref b18), .val (.ref b209), .val (.ref b220), .val (.ref b231), .val (.ref b239), .val (.ref b247), .val (.ref b255), .val (.ref b263), .val (.ref b271), .val (.int ((x0 &&& (2147483647 : Int32)) % (7 : Int32))), .val (.ref b247), .val (.int (1 : Int32)), .val (.int (1 : Int32)), .val (.int (1 : Int32)), .val (.int (0 : Int32))] [(.int (0 : Int32))])) _
                refine own_go (fun t_ k_ => XS.ifNo X317.here hx rfl (hb hby at_370) rfl ((if0 _ _).trans (teq (show ((0 : Int32) = (0 : Int32)) from by decide)).2) k_) ?_
                show own_Goes p e below (T317.setTop (mkF m 373 #[.val (.int x0), .val (.int x1), .val (.int x2), .val (.int x3), .val (.int x4), .val (.int x5), .val (.int z1), .val (.int z2), .val (.int (0 : Int32)), .val (.ref b4), .val (.ref b18), .val (.ref b209), .val (.ref b220), .val (.ref b231), .val (.ref b239), .val (.ref b247), .val (.ref b255), .val (.ref b263), .val (.ref b271), .val (.int ((x0 &&& (2147483647 : Int32)) % (7 : Int32))), .val (.ref b247), .val (.int (1 : Int32)), .val (.int (1 : Int32)), .val (.int (1 : Int32)), .val (.int (0 : Int32))] [])) _
                refine own_go (fun t_ k_ => XS.iconst X317.here hx rfl (hb hby at_373) k_) ?_
                show own_Goes p e below (T317.setTop (mkF m 374 #[.val (.int x0), .val (.int x1), .val (.int x2), .val (.int x3), .val (.int x4), .val (.int x5), .val (.int z1), .val (.int z2), .val (.int (0 : Int32)), .val (.ref b4), .val (.ref b18), .val (.ref b209), .val (.ref b220), .val (.ref b231), .val (.ref b239), .val (.ref b247), .val (.ref b255), .val (.ref b263), .val (.ref b271), .val (.int ((x0 &&& (2147483647 : Int32)) % (7 : Int32))), .val (.ref b247), .val (.int (1 : Int32)), .val (.int (1 : Int32)), .val (.int (1 : Int32)), .val (.int (0 : Int32))] [(.int (1 : Int32))])) _
                refine own_go (fun t_ k_ => XS.goto X317.here hx rfl (pc0 := 374) (pc' := 378) rfl (hb hby at_374) (by decide) (by decide) k_) ?_
                show own_Goes p e below (T317.setTop (mkF m 378 #[.val (.int x0), .val (.int x1), .val (.int x2), .val (.int x3), .val (.int x4), .val (.int x5), .val (.int z1), .val (.int z2), .val (.int (0 : Int32)), .val (.ref b4), .val (.ref b18), .val (.ref b209), .val (.ref b220), .val (.ref b231), .val (.ref b239), .val (.ref b247), .val (.ref b255), .val (.ref b263), .val (.ref b271), .val (.int ((x0 &&& (2147483647 : Int32)) % (7 : Int32))), .val (.ref b247), .val (.int (1 : Int32)), .val (.int (1 : Int32)), .val (.int (1 : Int32)), .val (.int (0 : Int32))] [(.int (1 : Int32))])) _
                refine own_endW X317 hS276 (show _ ≤ T317.heap.size by rw [e317]; exact hk276) (v := (some (.int (1 : Int32)))) (fun h => by rw [hret] at h; cases h) hlk (by decide) (by decide) ?_ (fun fs hr => retOut X317 hx hret rfl (Or.inl ⟨rfl, Or.inr (Or.inl rfl), _, rfl⟩) (hb hby at_378) hr)
                show Q_rm0 Z x0 x1 x2 x3 x4 x5 gz h0 n0 _ T317.heap _
                rw [e317]
                exact ⟨N317, trivial, rfl⟩
              · refine own_go (fun t_ k_ => XS.icmpYes X276.here hx rfl (pc0 := 262) (pc' := 275) rfl (hb hby at_262) rfl (feq hc305).2 (by decide) (by decide) k_) ?_
                show own_Goes p e below (T276.setTop (mkF m 275 #[.val (.int x0), .val (.int x1), .val (.int x2), .val (.int x3), .val (.int x4), .val (.int x5), .val (.int z1), .val (.int z2), .val (.int (0 : Int32)), .val (.ref b4), .val (.ref b18), .val (.ref b209), .val (.ref b220), .val (.ref b231), .val (.ref b239), .val (.ref b247), .val (.ref b255), .val (.ref b263), .val (.ref b271), .val (.int ((x0 &&& (2147483647 : Int32)) % (7 : Int32))), .unset, .unset, .unset, .unset, .unset] [])) _
                refine own_go (fun t_ k_ => XS.iload X276.here hx rfl (hb hby at_275) rfl k_) ?_
                show own_Goes p e below (T276.setTop (mkF m 277 #[.val (.int x0), .val (.int x1), .val (.int x2), .val (.int x3), .val (.int x4), .val (.int x5), .val (.int z1), .val (.int z2), .val (.int (0 : Int32)), .val (.ref b4), .val (.ref b18), .val (.ref b209), .val (.ref b220), .val (.ref b231), .val (.ref b239), .val (.ref b247), .val (.ref b255), .val (.ref b263), .val (.ref b271), .val (.int ((x0 &&& (2147483647 : Int32)) % (7 : Int32))), .unset, .unset, .unset, .unset, .unset] [(.int ((x0 &&& (2147483647 : Int32)) % (7 : Int32)))])) _
                refine own_go (fun t_ k_ => XS.iconst X276.here hx rfl (hb hby at_277) k_) ?_
                show own_Goes p e below (T276.setTop (mkF m 278 #[.val (.int x0), .val (.int x1), .val (.int x2), .val (.int x3), .val (.int x4), .val (.int x5), .val (.int z1), .val (.int z2), .val (.int (0 : Int32)), .val (.ref b4), .val (.ref b18), .val (.ref b209), .val (.ref b220), .val (.ref b231), .val (.ref b239), .val (.ref b247), .val (.ref b255), .val (.ref b263), .val (.ref b271), .val (.int ((x0 &&& (2147483647 : Int32)) % (7 : Int32))), .unset, .unset, .unset, .unset, .unset] [(.int (3 : Int32)), (.int ((x0 &&& (2147483647 : Int32)) % (7 : Int32)))])) _
                by_cases hc318 : ((x0 &&& (2147483647 : Int32)) % (7 : Int32)) = (3 : Int32)
                · refine own_go (fun t_ k_ => XS.icmpNo X276.here hx rfl (hb hby at_278) rfl (teq hc318).2 k_) ?_
                  show own_Goes p e below (T276.setTop (mkF m 281 #[.val (.int x0), .val (.int x1), .val (.int x2), .val (.int x3), .val (.int x4), .val (.int x5), .val (.int z1), .val (.int z2), .val (.int (0 : Int32)), .val (.ref b4), .val (.ref b18), .val (.ref b209), .val (.ref b220), .val (.ref b231), .val (.ref b239), .val (.ref b247), .val (.ref b255), .val (.ref b263), .val (.ref b271), .val (.int ((x0 &&& (2147483647 : Int32)) % (7 : Int32))), .unset, .unset, .unset, .unset, .unset] [])) _
                  refine own_go (fun t_ k_ => XS.aload X276.here hx rfl (hb hby at_281) rfl rfl k_) ?_
                  show own_Goes p e below (T276.setTop (mkF m 283 #[.val (.int x0), .val (.int x1), .val (.int x2), .val (.int x3), .val (.int x4), .val (.int x5), .val (.int z1), .val (.int z2), .val (.int (0 : Int32)), .val (.ref b4), .val (.ref b18), .val (.ref b209), .val (.ref b220), .val (.ref b231), .val (.ref b239), .val (.ref b247), .val (.ref b255), .val (.ref b263), .val (.ref b271), .val (.int ((x0 &&& (2147483647 : Int32)) % (7 : Int32))), .unset, .unset, .unset, .unset, .unset] [(.ref b271)])) _
                  refine own_go (fun t_ k_ => XS.astore X276.here hx rfl (hb hby at_283) rfl rfl (l' := #[.val (.int x0), .val (.int x1), .val (.int x2), .val (.int x3), .val (.int x4), .val (.int x5), .val (.int z1), .val (.int z2), .val (.int (0 : Int32)), .val (.ref b4), .val (.ref b18), .val (.ref b209), .val (.ref b220), .val (.ref b231), .val (.ref b239), .val (.ref b247), .val (.ref b255), .val (.ref b263), .val (.ref b271), .val (.int ((x0 &&& (2147483647 : Int32)) % (7 : Int32))), .val (.ref b271), .unset, .unset, .unset, .unset]) rfl k_) ?_
                  show own_Goes p e below (T276.setTop (mkF m 285 #[.val (.int x0), .val (.int x1), .val (.int x2), .val (.int x3), .val (.int x4), .val (.int x5), .val (.int z1), .val (.int z2), .val (.int (0 : Int32)), .val (.ref b4), .val (.ref b18), .val (.ref b209), .val (.ref b220), .val (.ref b231), .val (.ref b239), .val (.ref b247), .val (.ref b255), .val (.ref b263), .val (.ref b271), .val (.int ((x0 &&& (2147483647 : Int32)) % (7 : Int32))), .val (.ref b271), .unset, .unset, .unset, .unset] [])) _
                  refine own_go (fun t_ k_ => XS.iconst X276.here hx rfl (hb hby at_285) k_) ?_
                  show own_Goes p e below (T276.setTop (mkF m 286 #[.val (.int x0), .val (.int x1), .val (.int x2), .val (.int x3), .val (.int x4), .val (.int x5), .val (.int z1), .val (.int z2), .val (.int (0 : Int32)), .val (.ref b4), .val (.ref b18), .val (.ref b209), .val (.ref b220), .val (.ref b231), .val (.ref b239), .val (.ref b247), .val (.ref b255), .val (.ref b263), .val (.ref b271), .val (.int ((x0 &&& (2147483647 : Int32)) % (7 : Int32))), .val (.ref b271), .unset, .unset, .unset, .unset] [(.int (0 : Int32))])) _
                  refine own_go (fun t_ k_ => XS.istore X276.here hx rfl (hb hby at_286) rfl (l' := #[.val (.int x0), .val (.int x1), .val (.int x2), .val (.int x3), .val (.int x4), .val (.int x5), .val (.int z1), .val (.int z2), .val (.int (0 : Int32)), .val (.ref b4), .val (.ref b18), .val (.ref b209), .val (.ref b220), .val (.ref b231), .val (.ref b239), .val (.ref b247), .val (.ref b255), .val (.ref b263), .val (.ref b271), .val (.int ((x0 &&& (2147483647 : Int32)) % (7 : Int32))), .val (.ref b271), .val (.int (0 : Int32)), .unset, .unset, .unset]) rfl k_) ?_
                  show own_Goes p e below (T276.setTop (mkF m 288 #[.val (.int x0), .val (.int x1), .val (.int x2), .val (.int x3), .val (.int x4), .val (.int x5), .val (.int z1), .val (.int z2), .val (.int (0 : Int32)), .val (.ref b4), .val (.ref b18), .val (.ref b209), .val (.ref b220), .val (.ref b231), .val (.ref b239), .val (.ref b247), .val (.ref b255), .val (.ref b263), .val (.ref b271), .val (.int ((x0 &&& (2147483647 : Int32)) % (7 : Int32))), .val (.ref b271), .val (.int (0 : Int32)), .unset, .unset, .unset] [])) _
                  refine own_go (fun t_ k_ => XS.goto X276.here hx rfl (pc0 := 288) (pc' := 329) rfl (hb hby at_288) (by decide) (by decide) k_) ?_
                  show own_Goes p e below (T276.setTop (mkF m 329 #[.val (.int x0), .val (.int x1), .val (.int x2), .val (.int x3), .val (.int x4), .val (.int x5), .val (.int z1), .val (.int z2), .val (.int (0 : Int32)), .val (.ref b4), .val (.ref b18), .val (.ref b209), .val (.ref b220), .val (.ref b231), .val (.ref b239), .val (.ref b247), .val (.ref b255), .val (.ref b263), .val (.ref b271), .val (.int ((x0 &&& (2147483647 : Int32)) % (7 : Int32))), .val (.ref b271), .val (.int (0 : Int32)), .unset, .unset, .unset] [])) _
                  refine own_go (fun t_ k_ => XS.aload X276.here hx rfl (hb hby at_329) rfl rfl k_) ?_
                  show own_Goes p e below (T276.setTop (mkF m 331 #[.val (.int x0), .val (.int x1), .val (.int x2), .val (.int x3), .val (.int x4), .val (.int x5), .val (.int z1), .val (.int z2), .val (.int (0 : Int32)), .val (.ref b4), .val (.ref b18), .val (.ref b209), .val (.ref b220), .val (.ref b231), .val (.ref b239), .val (.ref b247), .val (.ref b255), .val (.ref b263), .val (.ref b271), .val (.int ((x0 &&& (2147483647 : Int32)) % (7 : Int32))), .val (.ref b271), .val (.int (0 : Int32)), .unset, .unset, .unset] [(.ref b247)])) _
                  refine own_go (fun t_ k_ => XS.aload X276.here hx rfl (hb hby at_331) rfl rfl k_) ?_
                  show own_Goes p e below (T276.setTop (mkF m 333 #[.val (.int x0), .val (.int x1), .val (.int x2), .val (.int x3), .val (.int x4), .val (.int x5), .val (.int z1), .val (.int z2), .val (.int (0 : Int32)), .val (.ref b4), .val (.ref b18), .val (.ref b209), .val (.ref b220), .val (.ref b231), .val (.ref b239), .val (.ref b247), .val (.ref b255), .val (.ref b263), .val (.ref b271), .val (.int ((x0 &&& (2147483647 : Int32)) % (7 : Int32))), .val (.ref b271), .val (.int (0 : Int32)), .unset, .unset, .unset] [(.ref b271), (.ref b247)])) _
                  have f319 := (A271.keep Kc276)
                  have f320 := (((((((A247.keep Kc252).ext E255).keep Kc260).ext E263).keep Kc268).ext E271).keep Kc276)
                  obtain ⟨cqiv321, kqiv321, qiv321a, qiv321b, qiv321c⟩ := isOf hZ276 e276 f320
                  obtain ⟨_, _, ⟨T322, L322, k322, n322⟩, -, X322, ⟨Lc322, hQ322, l322, y322, z322⟩, st322⟩ := X276.virtualBack hx (y := own_m12) (z := own_m12) hown276 (mvT hZ276 (hw _ (List.mem_of_getElem? (i := 80) rfl))) (mvT hZ276 (hw _ (List.mem_of_getElem? (i := 81) rfl))) (notFace_of_selects (args := #[]) (mvT hZ276 (hw _ (List.mem_of_getElem? (i := 83) rfl)))) (mvT hZ276 (hw _ (List.mem_of_getElem? (i := 83) rfl))) (mvT hZ276 (hw _ (List.mem_of_getElem? (i := 82) rfl))) (by decide) (backOf (W := 0) (own_eqO0 l Z a0 hw [] b247 b271 h276 n0 O277 f319) hZ276 (hw _ (List.mem_of_getElem? (i := 84) rfl)) (hw _ (List.mem_of_getElem? (i := 51) rfl)) (by decide) (by decide)) qiv321a qiv321c (g := (mkF m 333 #[.val (.int x0), .val (.int x1), .val (.int x2), .val (.int x3), .val (.int x4), .val (.int x5), .val (.int z1), .val (.int z2), .val (.int (0 : Int32)), .val (.ref b4), .val (.ref b18), .val (.ref b209), .val (.ref b220), .val (.ref b231), .val (.ref b239), .val (.ref b247), .val (.ref b255), .val (.ref b263), .val (.ref b271), .val (.int ((x0 &&& (2147483647 : Int32)) % (7 : Int32))), .val (.ref b271), .val (.int (0 : Int32)), .unset, .unset, .unset] [(.ref b271), (.ref b247)])) rfl (by rw [hml]; rfl) (Steps.refl _) (argsL := [(.ref b271)]) (rest := []) (lenOf own_pd_11 rfl) rfl (by show 2 * 0 + _ ≤ _; exact Nat.le_of_eq rfl) (hb hby at_333) (fun _ _ => ⟨rfl, e276, (by decide : 24 + 0 ≤ _), (by decide : 168 + 0 ≤ _)⟩)
                  dsimp only [Pt.U, Pt.locs, Pt.cells, Pt.slots] at X322 l322 y322 z322 st322 hQ322
                  subst l322 y322 z322
                  obtain ⟨Nc322, e322, rfl⟩ := hQ322
                  have N322 := Fr.app N276 Nc322
                  refine own_goS st322 ?_
                  show own_Goes p e below (T322.setTop (mkF m 336 #[.val (.int x0), .val (.int x1), .val (.int x2), .val (.int x3), .val (.int x4), .val (.int x5), .val (.int z1), .val (.int z2), .val (.int (0 : Int32)), .val (.ref b4), .val (.ref b18), .val (.ref b209), .val (.ref b220), .val (.ref b231), .val (.ref b239), .val (.ref b247), .val (.ref b255), .val (.ref b263), .val (.ref b271), .val (.int ((x0 &&& (2147483647 : Int32)) % (7 : Int32))), .val (.ref b271), .val (.int (0 : Int32)), .unset, .unset, .unset] [(.int (0 : Int32))])) _
                  refine own_go (fun t_ k_ => XS.istore X322.here hx rfl (hb hby at_336) rfl (l' := #[.val (.int x0), .val (.int x1), .val (.int x2), .val (.int x3), .val (.int x4), .val (.int x5), .val (.int z1), .val (.int z2), .val (.int (0 : Int32)), .val (.ref b4), .val (.ref b18), .val (.ref b209), .val (.ref b220), .val (.ref b231), .val (.ref b239), .val (.ref b247), .val (.ref b255), .val (.ref b263), .val (.ref b271), .val (.int ((x0 &&& (2147483647 : Int32)) % (7 : Int32))), .val (.ref b271), .val (.int (0 : Int32)), .val (.int (0 : Int32)), .unset, .unset]) rfl k_) ?_
                  show own_Goes p e below (T322.setTop (mkF m 338 #[.val (.int x0), .val (.int x1), .val (.int x2), .val (.int x3), .val (.int x4), .val (.int x5), .val (.int z1), .val (.int z2), .val (.int (0 : Int32)), .val (.ref b4), .val (.ref b18), .val (.ref b209), .val (.ref b220), .val (.ref b231), .val (.ref b239), .val (.ref b247), .val (.ref b255), .val (.ref b263), .val (.ref b271), .val (.int ((x0 &&& (2147483647 : Int32)) % (7 : Int32))), .val (.ref b271), .val (.int (0 : Int32)), .val (.int (0 : Int32)), .unset, .unset] [])) _
                  refine own_go (fun t_ k_ => XS.aload X322.here hx rfl (hb hby at_338) rfl rfl k_) ?_
                  show own_Goes p e below (T322.setTop (mkF m 340 #[.val (.int x0), .val (.int x1), .val (.int x2), .val (.int x3), .val (.int x4), .val (.int x5), .val (.int z1), .val (.int z2), .val (.int (0 : Int32)), .val (.ref b4), .val (.ref b18), .val (.ref b209), .val (.ref b220), .val (.ref b231), .val (.ref b239), .val (.ref b247), .val (.ref b255), .val (.ref b263), .val (.ref b271), .val (.int ((x0 &&& (2147483647 : Int32)) % (7 : Int32))), .val (.ref b271), .val (.int (0 : Int32)), .val (.int (0 : Int32)), .unset, .unset] [(.ref b255)])) _
                  refine own_go (fun t_ k_ => XS.aload X322.here hx rfl (hb hby at_340) rfl rfl k_) ?_
                  show own_Goes p e below (T322.setTop (mkF m 342 #[.val (.int x0), .val (.int x1), .val (.int x2), .val (.int x3), .val (.int x4), .val (.int x5), .val (.int z1), .val (.int z2), .val (.int (0 : Int32)), .val (.ref b4), .val (.ref b18), .val (.ref b209), .val (.ref b220), .val (.ref b231), .val (.ref b239), .val (.ref b247), .val (.ref b255), .val (.ref b263), .val (.ref b271), .val (.int ((x0 &&& (2147483647 : Int32)) % (7 : Int32))), .val (.ref b271), .val (.int (0 : Int32)), .val (.int (0 : Int32)), .unset, .unset] [(.ref b247), (.ref b255)])) _
                  have f323 := ((((c260_0.ext E263).keep Kc268 (ninS (own_ne (a := b255) (b := b263) (by omega)) nin0)).ext E271).keep Kc276 (ninS (own_ne (a := b255) (b := b271) (by omega)) nin0))
                  have f324 := ((((((c252_0.ext E255).keep Kc260 (ninS (own_ne (a := b247) (b := b255) (by omega)) nin0)).ext E263).keep Kc268 (ninS (own_ne (a := b247) (b := b263) (by omega)) nin0)).ext E271).keep Kc276 (ninS (own_ne (a := b247) (b := b271) (by omega)) nin0))
                  have f325 := (((((A255.keep Kc260).ext E263).keep Kc268).ext E271).keep Kc276)
                  obtain ⟨cqiv326, kqiv326, qiv326a, qiv326b, qiv326c⟩ := isOf hZ276 e322 f325
                  obtain ⟨_, _, ⟨T327, L327, k327, n327⟩, -, X327, ⟨Lc327, hQ327, l327, y327, z327⟩, st327⟩ := X322.virtualBack hx (y := own_m12) (z := own_m12) hown276 (mvT hZ276 (hw _ (List.mem_of_getElem? (i := 80) rfl))) (mvT hZ276 (hw _ (List.mem_of_getElem? (i := 81) rfl))) (notFace_of_selects (args := #[]) (mvT hZ276 (hw _ (List.mem_of_getElem? (i := 83) rfl)))) (mvT hZ276 (hw _ (List.mem_of_getElem? (i := 83) rfl))) (mvT hZ276 (hw _ (List.mem_of_getElem? (i := 82) rfl))) (by decide) (backOf (W := 0) (own_eqT l Z a0 hw [] b255 b247 b231 h276 n0 O277 f320 f323 f324) hZ276 (hw _ (List.mem_of_getElem? (i := 84) rfl)) (hw _ (List.mem_of_getElem? (i := 51) rfl)) (by decide) (by decide)) qiv326a qiv326c (g := (mkF m 342 #[.val (.int x0), .val (.int x1), .val (.int x2), .val (.int x3), .val (.int x4), .val (.int x5), .val (.int z1), .val (.int z2), .val (.int (0 : Int32)), .val (.ref b4), .val (.ref b18), .val (.ref b209), .val (.ref b220), .val (.ref b231), .val (.ref b239), .val (.ref b247), .val (.ref b255), .val (.ref b263), .val (.ref b271), .val (.int ((x0 &&& (2147483647 : Int32)) % (7 : Int32))), .val (.ref b271), .val (.int (0 : Int32)), .val (.int (0 : Int32)), .unset, .unset] [(.ref b247), (.ref b255)])) rfl (by rw [hml]; rfl) (Steps.refl _) (argsL := [(.ref b247)]) (rest := []) (lenOf own_pd_11 rfl) rfl (by show 2 * 0 + _ ≤ _; exact Nat.le_of_eq rfl) (hb hby at_342) (fun _ _ => ⟨rfl, e322, (by decide : 24 + 0 ≤ _), (by decide : 168 + 0 ≤ _)⟩)
                  dsimp only [Pt.U, Pt.locs, Pt.cells, Pt.slots] at X327 l327 y327 z327 st327 hQ327
                  subst l327 y327 z327
                  obtain ⟨Nc327, e327, rfl⟩ := hQ327
                  have N327 := Fr.app N322 Nc327
                  refine own_goS st327 ?_
                  show own_Goes p e below (T327.setTop (mkF m 345 #[.val (.int x0), .val (.int x1), .val (.int x2), .val (.int x3), .val (.int x4), .val (.int x5), .val (.int z1), .val (.int z2), .val (.int (0 : Int32)), .val (.ref b4), .val (.ref b18), .val (.ref b209), .val (.ref b220), .val (.ref b231), .val (.ref b239), .val (.ref b247), .val (.ref b255), .val (.ref b263), .val (.ref b271), .val (.int ((x0 &&& (2147483647 : Int32)) % (7 : Int32))), .val (.ref b271), .val (.int (0 : Int32)), .val (.int (0 : Int32)), .unset, .unset] [(.int (1 : Int32))])) _
                  refine own_go (fun t_ k_ => XS.istore X327.here hx rfl (hb hby at_345) rfl (l' := #[.val (.int x0), .val (.int x1), .val (.int x2), .val (.int x3), .val (.int x4), .val (.int x5), .val (.int z1), .val (.int z2), .val (.int (0 : Int32)), .val (.ref b4), .val (.ref b18), .val (.ref b209), .val (.ref b220), .val (.ref b231), .val (.ref b239), .val (.ref b247), .val (.ref b255), .val (.ref b263), .val (.ref b271), .val (.int ((x0 &&& (2147483647 : Int32)) % (7 : Int32))), .val (.ref b271), .val (.int (0 : Int32)), .val (.int (0 : Int32)), .val (.int (1 : Int32)), .unset]) rfl k_) ?_
                  show own_Goes p e below (T327.setTop (mkF m 347 #[.val (.int x0), .val (.int x1), .val (.int x2), .val (.int x3), .val (.int x4), .val (.int x5), .val (.int z1), .val (.int z2), .val (.int (0 : Int32)), .val (.ref b4), .val (.ref b18), .val (.ref b209), .val (.ref b220), .val (.ref b231), .val (.ref b239), .val (.ref b247), .val (.ref b255), .val (.ref b263), .val (.ref b271), .val (.int ((x0 &&& (2147483647 : Int32)) % (7 : Int32))), .val (.ref b271), .val (.int (0 : Int32)), .val (.int (0 : Int32)), .val (.int (1 : Int32)), .unset] [])) _
                  refine own_go (fun t_ k_ => XS.aload X327.here hx rfl (hb hby at_347) rfl rfl k_) ?_
                  show own_Goes p e below (T327.setTop (mkF m 349 #[.val (.int x0), .val (.int x1), .val (.int x2), .val (.int x3), .val (.int x4), .val (.int x5), .val (.int z1), .val (.int z2), .val (.int (0 : Int32)), .val (.ref b4), .val (.ref b18), .val (.ref b209), .val (.ref b220), .val (.ref b231), .val (.ref b239), .val (.ref b247), .val (.ref b255), .val (.ref b263), .val (.ref b271), .val (.int ((x0 &&& (2147483647 : Int32)) % (7 : Int32))), .val (.ref b271), .val (.int (0 : Int32)), .val (.int (0 : Int32)), .val (.int (1 : Int32)), .unset] [(.ref b263)])) _
                  refine own_go (fun t_ k_ => XS.aload X327.here hx rfl (hb hby at_349) rfl rfl k_) ?_
                  show own_Goes p e below (T327.setTop (mkF m 351 #[.val (.int x0), .val (.int x1), .val (.int x2), .val (.int x3), .val (.int x4), .val (.int x5), .val (.int z1), .val (.int z2), .val (.int (0 : Int32)), .val (.ref b4), .val (.ref b18), .val (.ref b209), .val (.ref b220), .val (.ref b231), .val (.ref b239), .val (.ref b247), .val (.ref b255), .val (.ref b263), .val (.ref b271), .val (.int ((x0 &&& (2147483647 : Int32)) % (7 : Int32))), .val (.ref b271), .val (.int (0 : Int32)), .val (.int (0 : Int32)), .val (.int (1 : Int32)), .unset] [(.ref b247), (.ref b263)])) _
                  have f328 := ((c268_0.ext E271).keep Kc276 (ninS (own_ne (a := b263) (b := b271) (by omega)) nin0))
                  have f329 := (((A263.keep Kc268).ext E271).keep Kc276)
                  obtain ⟨cqiv330, kqiv330, qiv330a, qiv330b, qiv330c⟩ := isOf hZ276 e327 f329
                  obtain ⟨_, _, ⟨T331, L331, k331, n331⟩, -, X331, ⟨Lc331, hQ331, l331, y331, z331⟩, st331⟩ := X327.virtualBack hx (y := own_m12) (z := own_m12) hown276 (mvT hZ276 (hw _ (List.mem_of_getElem? (i := 80) rfl))) (mvT hZ276 (hw _ (List.mem_of_getElem? (i := 81) rfl))) (notFace_of_selects (args := #[]) (mvT hZ276 (hw _ (List.mem_of_getElem? (i := 83) rfl)))) (mvT hZ276 (hw _ (List.mem_of_getElem? (i := 83) rfl))) (mvT hZ276 (hw _ (List.mem_of_getElem? (i := 82) rfl))) (by decide) (backOf (W := 0) (own_eqF l Z a0 hw [] b263 b247 b239 b231 h276 n0 O277 f320 f328 f324 (show ¬ b231 = b239 from (by omega))) hZ276 (hw _ (List.mem_of_getElem? (i := 84) rfl)) (hw _ (List.mem_of_getElem? (i := 51) rfl)) (by decide) (by decide)) qiv330a qiv330c (g := (mkF m 351 #[.val (.int x0), .val (.int x1), .val (.int x2), .val (.int x3), .val (.int x4), .val (.int x5), .val (.int z1), .val (.int z2), .val (.int (0 : Int32)), .val (.ref b4), .val (.ref b18), .val (.ref b209), .val (.ref b220), .val (.ref b231), .val (.ref b239), .val (.ref b247), .val (.ref b255), .val (.ref b263), .val (.ref b271), .val (.int ((x0 &&& (2147483647 : Int32)) % (7 : Int32))), .val (.ref b271), .val (.int (0 : Int32)), .val (.int (0 : Int32)), .val (.int (1 : Int32)), .unset] [(.ref b247), (.ref b263)])) rfl (by rw [hml]; rfl) (Steps.refl _) (argsL := [(.ref b247)]) (rest := []) (lenOf own_pd_11 rfl) rfl (by show 2 * 0 + _ ≤ _; exact Nat.le_of_eq rfl) (hb hby at_351) (fun _ _ => ⟨rfl, e327, (by decide : 24 + 0 ≤ _), (by decide : 168 + 0 ≤ _)⟩)
                  dsimp only [Pt.U, Pt.locs, Pt.cells, Pt.slots] at X331 l331 y331 z331 st331 hQ331
                  subst l331 y331 z331
                  obtain ⟨Nc331, e331, rfl⟩ := hQ331
                  have N331 := Fr.app N327 Nc331
                  refine own_goS st331 ?_
                  show own_Goes p e below (T331.setTop (mkF m 354 #[.val (.int x0), .val (.int x1), .val (.int x2), .val (.int x3), .val (.int x4), .val (.int x5), .val (.int z1), .val (.int z2), .val (.int (0 : Int32)), .val (.ref b4), .val (.ref b18), .val (.ref b209), .val (.ref b220), .val (.ref b231), .val (.ref b239), .val (.ref b247), .val (.ref b255), .val (.ref b263), .val (.ref b271), .val (.int ((x0 &&& (2147483647 : Int32)) % (7 : Int32))), .val (.ref b271), .val (.int (0 : Int32)), .val (.int (0 : Int32)), .val (.int (1 : Int32)), .unset] [(.int (0 : Int32))])) _
                  refine own_go (fun t_ k_ => XS.istore X331.here hx rfl (hb hby at_354) rfl (l' := #[.val (.int x0), .val (.int x1), .val (.int x2), .val (.int x3), .val (.int x4), .val (.int x5), .val (.int z1), .val (.int z2), .val (.int (0 : Int32)), .val (.ref b4), .val (.ref b18), .val (.ref b209), .val (.ref b220), .val (.ref b231), .val (.ref b239), .val (.ref b247), .val (.ref b255), .val (.ref b263), .val (.ref b271), .val (.int ((x0 &&& (2147483647 : Int32)) % (7 : Int32))), .val (.ref b271), .val (.int (0 : Int32)), .val (.int (0 : Int32)), .val (.int (1 : Int32)), .val (.int (0 : Int32))]) rfl k_) ?_
                  show own_Goes p e below (T331.setTop (mkF m 356 #[.val (.int x0), .val (.int x1), .val (.int x2), .val (.int x3), .val (.int x4), .val (.int x5), .val (.int z1), .val (.int z2), .val (.int (0 : Int32)), .val (.ref b4), .val (.ref b18), .val (.ref b209), .val (.ref b220), .val (.ref b231), .val (.ref b239), .val (.ref b247), .val (.ref b255), .val (.ref b263), .val (.ref b271), .val (.int ((x0 &&& (2147483647 : Int32)) % (7 : Int32))), .val (.ref b271), .val (.int (0 : Int32)), .val (.int (0 : Int32)), .val (.int (1 : Int32)), .val (.int (0 : Int32))] [])) _
                  refine own_go (fun t_ k_ => XS.iload X331.here hx rfl (hb hby at_356) rfl k_) ?_
                  show own_Goes p e below (T331.setTop (mkF m 358 #[.val (.int x0), .val (.int x1), .val (.int x2), .val (.int x3), .val (.int x4), .val (.int x5), .val (.int z1), .val (.int z2), .val (.int (0 : Int32)), .val (.ref b4), .val (.ref b18), .val (.ref b209), .val (.ref b220), .val (.ref b231), .val (.ref b239), .val (.ref b247), .val (.ref b255), .val (.ref b263), .val (.ref b271), .val (.int ((x0 &&& (2147483647 : Int32)) % (7 : Int32))), .val (.ref b271), .val (.int (0 : Int32)), .val (.int (0 : Int32)), .val (.int (1 : Int32)), .val (.int (0 : Int32))] [(.int (0 : Int32))])) _
                  refine own_go (fun t_ k_ => XS.iload X331.here hx rfl (hb hby at_358) rfl k_) ?_
                  show own_Goes p e below (T331.setTop (mkF m 360 #[.val (.int x0), .val (.int x1), .val (.int x2), .val (.int x3), .val (.int x4), .val (.int x5), .val (.int z1), .val (.int z2), .val (.int (0 : Int32)), .val (.ref b4), .val (.ref b18), .val (.ref b209), .val (.ref b220), .val (.ref b231), .val (.ref b239), .val (.ref b247), .val (.ref b255), .val (.ref b263), .val (.ref b271), .val (.int ((x0 &&& (2147483647 : Int32)) % (7 : Int32))), .val (.ref b271), .val (.int (0 : Int32)), .val (.int (0 : Int32)), .val (.int (1 : Int32)), .val (.int (0 : Int32))] [(.int (0 : Int32)), (.int (0 : Int32))])) _
                  refine own_go (fun t_ k_ => XS.icmpNo X331.here hx rfl (hb hby at_360) rfl (teq (show ((0 : Int32) = (0 : Int32)) from by decide)).2 k_) ?_
                  show own_Goes p e below (T331.setTop (mkF m 363 #[.val (.int x0), .val (.int x1), .val (.int x2), .val (.int x3), .val (.int x4), .val (.int x5), .val (.int z1), .val (.int z2), .val (.int (0 : Int32)), .val (.ref b4), .val (.ref b18), .val (.ref b209), .val (.ref b220), .val (.ref b231), .val (.ref b239), .val (.ref b247), .val (.ref b255), .val (.ref b263), .val (.ref b271), .val (.int ((x0 &&& (2147483647 : Int32)) % (7 : Int32))), .val (.ref b271), .val (.int (0 : Int32)), .val (.int (0 : Int32)), .val (.int (1 : Int32)), .val (.int (0 : Int32))] [])) _
                  refine own_go (fun t_ k_ => XS.iload X331.here hx rfl (hb hby at_363) rfl k_) ?_
                  show own_Goes p e below (T331.setTop (mkF m 365 #[.val (.int x0), .val (.int x1), .val (.int x2), .val (.int x3), .val (.int x4), .val (.int x5), .val (.int z1), .val (.int z2), .val (.int (0 : Int32)), .val (.ref b4), .val (.ref b18), .val (.ref b209), .val (.ref b220), .val (.ref b231), .val (.ref b239), .val (.ref b247), .val (.ref b255), .val (.ref b263), .val (.ref b271), .val (.int ((x0 &&& (2147483647 : Int32)) % (7 : Int32))), .val (.ref b271), .val (.int (0 : Int32)), .val (.int (0 : Int32)), .val (.int (1 : Int32)), .val (.int (0 : Int32))] [(.int (1 : Int32))])) _
                  refine own_go (fun t_ k_ => XS.ifNo X331.here hx rfl (hb hby at_365) rfl ((if0 _ _).trans (feq (show ¬ ((1 : Int32) = (0 : Int32)) from by decide)).1) k_) ?_
                  show own_Goes p e below (T331.setTop (mkF m 368 #[.val (.int x0), .val (.int x1), .val (.int x2), .val (.int x3), .val (.int x4), .val (.int x5), .val (.int z1), .val (.int z2), .val (.int (0 : Int32)), .val (.ref b4), .val (.ref b18), .val (.ref b209), .val (.ref b220), .val (.ref b231), .val (.ref b239), .val (.ref b247), .val (.ref b255), .val (.ref b263), .val (.ref b271), .val (.int ((x0 &&& (2147483647 : Int32)) % (7 : Int32))), .val (.ref b271), .val (.int (0 : Int32)), .val (.int (0 : Int32)), .val (.int (1 : Int32)), .val (.int (0 : Int32))] [])) _
                  refine own_go (fun t_ k_ => XS.iload X331.here hx rfl (hb hby at_368) rfl k_) ?_
                  show own_Goes p e below (T331.setTop (mkF m 370 #[.val (.int x0), .val (.int x1), .val (.int x2), .val (.int x3), .val (.int x4), .val (.int x5), .val (.int z1), .val (.int z2), .val (.int (0 : Int32)), .val (.ref b4), .val (.ref b18), .val (.ref b209), .val (.ref b220), .val (.ref b231), .val (.ref b239), .val (.ref b247), .val (.ref b255), .val (.ref b263), .val (.ref b271), .val (.int ((x0 &&& (2147483647 : Int32)) % (7 : Int32))), .val (.ref b271), .val (.int (0 : Int32)), .val (.int (0 : Int32)), .val (.int (1 : Int32)), .val (.int (0 : Int32))] [(.int (0 : Int32))])) _
                  refine own_go (fun t_ k_ => XS.ifNo X331.here hx rfl (hb hby at_370) rfl ((if0 _ _).trans (teq (show ((0 : Int32) = (0 : Int32)) from by decide)).2) k_) ?_
                  show own_Goes p e below (T331.setTop (mkF m 373 #[.val (.int x0), .val (.int x1), .val (.int x2), .val (.int x3), .val (.int x4), .val (.int x5), .val (.int z1), .val (.int z2), .val (.int (0 : Int32)), .val (.ref b4), .val (.ref b18), .val (.ref b209), .val (.ref b220), .val (.ref b231), .val (.ref b239), .val (.ref b247), .val (.ref b255), .val (.ref b263), .val (.ref b271), .val (.int ((x0 &&& (2147483647 : Int32)) % (7 : Int32))), .val (.ref b271), .val (.int (0 : Int32)), .val (.int (0 : Int32)), .val (.int (1 : Int32)), .val (.int (0 : Int32))] [])) _
                  refine own_go (fun t_ k_ => XS.iconst X331.here hx rfl (hb hby at_373) k_) ?_
                  show own_Goes p e below (T331.setTop (mkF m 374 #[.val (.int x0), .val (.int x1), .val (.int x2), .val (.int x3), .val (.int x4), .val (.int x5), .val (.int z1), .val (.int z2), .val (.int (0 : Int32)), .val (.ref b4), .val (.ref b18), .val (.ref b209), .val (.ref b220), .val (.ref b231), .val (.ref b239), .val (.ref b247), .val (.ref b255), .val (.ref b263), .val (.ref b271), .val (.int ((x0 &&& (2147483647 : Int32)) % (7 : Int32))), .val (.ref b271), .val (.int (0 : Int32)), .val (.int (0 : Int32)), .val (.int (1 : Int32)), .val (.int (0 : Int32))] [(.int (1 : Int32))])) _
                  refine own_go (fun t_ k_ => XS.goto X331.here hx rfl (pc0 := 374) (pc' := 378) rfl (hb hby at_374) (by decide) (by decide) k_) ?_
                  show own_Goes p e below (T331.setTop (mkF m 378 #[.val (.int x0), .val (.int x1), .val (.int x2), .val (.int x3), .val (.int x4), .val (.int x5), .val (.int z1), .val (.int z2), .val (.int (0 : Int32)), .val (.ref b4), .val (.ref b18), .val (.ref b209), .val (.ref b220), .val (.ref b231), .val (.ref b239), .val (.ref b247), .val (.ref b255), .val (.ref b263), .val (.ref b271), .val (.int ((x0 &&& (2147483647 : Int32)) % (7 : Int32))), .val (.ref b271), .val (.int (0 : Int32)), .val (.int (0 : Int32)), .val (.int (1 : Int32)), .val (.int (0 : Int32))] [(.int (1 : Int32))])) _
                  refine own_endW X331 hS276 (show _ ≤ T331.heap.size by rw [e331]; exact hk276) (v := (some (.int (1 : Int32)))) (fun h => by rw [hret] at h; cases h) hlk (by decide) (by decide) ?_ (fun fs hr => retOut X331 hx hret rfl (Or.inl ⟨rfl, Or.inr (Or.inl rfl), _, rfl⟩) (hb hby at_378) hr)
                  show Q_rm0 Z x0 x1 x2 x3 x4 x5 gz h0 n0 _ T331.heap _
                  rw [e331]
                  exact ⟨N331, trivial, rfl⟩
                · refine own_go (fun t_ k_ => XS.icmpYes X276.here hx rfl (pc0 := 278) (pc' := 291) rfl (hb hby at_278) rfl (feq hc318).2 (by decide) (by decide) k_) ?_
                  show own_Goes p e below (T276.setTop (mkF m 291 #[.val (.int x0), .val (.int x1), .val (.int x2), .val (.int x3), .val (.int x4), .val (.int x5), .val (.int z1), .val (.int z2), .val (.int (0 : Int32)), .val (.ref b4), .val (.ref b18), .val (.ref b209), .val (.ref b220), .val (.ref b231), .val (.ref b239), .val (.ref b247), .val (.ref b255), .val (.ref b263), .val (.ref b271), .val (.int ((x0 &&& (2147483647 : Int32)) % (7 : Int32))), .unset, .unset, .unset, .unset, .unset] [])) _
                  refine own_go (fun t_ k_ => XS.iload X276.here hx rfl (hb hby at_291) rfl k_) ?_
                  show own_Goes p e below (T276.setTop (mkF m 293 #[.val (.int x0), .val (.int x1), .val (.int x2), .val (.int x3), .val (.int x4), .val (.int x5), .val (.int z1), .val (.int z2), .val (.int (0 : Int32)), .val (.ref b4), .val (.ref b18), .val (.ref b209), .val (.ref b220), .val (.ref b231), .val (.ref b239), .val (.ref b247), .val (.ref b255), .val (.ref b263), .val (.ref b271), .val (.int ((x0 &&& (2147483647 : Int32)) % (7 : Int32))), .unset, .unset, .unset, .unset, .unset] [(.int ((x0 &&& (2147483647 : Int32)) % (7 : Int32)))])) _
                  refine own_go (fun t_ k_ => XS.iconst X276.here hx rfl (hb hby at_293) k_) ?_
                  show own_Goes p e below (T276.setTop (mkF m 294 #[.val (.int x0), .val (.int x1), .val (.int x2), .val (.int x3), .val (.int x4), .val (.int x5), .val (.int z1), .val (.int z2), .val (.int (0 : Int32)), .val (.ref b4), .val (.ref b18), .val (.ref b209), .val (.ref b220), .val (.ref b231), .val (.ref b239), .val (.ref b247), .val (.ref b255), .val (.ref b263), .val (.ref b271), .val (.int ((x0 &&& (2147483647 : Int32)) % (7 : Int32))), .unset, .unset, .unset, .unset, .unset] [(.int (4 : Int32)), (.int ((x0 &&& (2147483647 : Int32)) % (7 : Int32)))])) _
                  by_cases hc332 : ((x0 &&& (2147483647 : Int32)) % (7 : Int32)) = (4 : Int32)
                  · refine own_go (fun t_ k_ => XS.icmpNo X276.here hx rfl (hb hby at_294) rfl (teq hc332).2 k_) ?_
                    show own_Goes p e below (T276.setTop (mkF m 297 #[.val (.int x0), .val (.int x1), .val (.int x2), .val (.int x3), .val (.int x4), .val (.int x5), .val (.int z1), .val (.int z2), .val (.int (0 : Int32)), .val (.ref b4), .val (.ref b18), .val (.ref b209), .val (.ref b220), .val (.ref b231), .val (.ref b239), .val (.ref b247), .val (.ref b255), .val (.ref b263), .val (.ref b271), .val (.int ((x0 &&& (2147483647 : Int32)) % (7 : Int32))), .unset, .unset, .unset, .unset, .unset] [])) _
                    refine own_go (fun t_ k_ => XS.aconstNull X276.here hx rfl (hb hby at_297) k_) ?_
                    show own_Goes p e below (T276.setTop (mkF m 298 #[.val (.int x0), .val (.int x1), .val (.int x2), .val (.int x3), .val (.int x4), .val (.int x5), .val (.int z1), .val (.int z2), .val (.int (0 : Int32)), .val (.ref b4), .val (.ref b18), .val (.ref b209), .val (.ref b220), .val (.ref b231), .val (.ref b239), .val (.ref b247), .val (.ref b255), .val (.ref b263), .val (.ref b271), .val (.int ((x0 &&& (2147483647 : Int32)) % (7 : Int32))), .unset, .unset, .unset, .unset, .unset] [.null])) _
                    refine own_go (fun t_ k_ => XS.astore X276.here hx rfl (hb hby at_298) rfl rfl (l' := #[.val (.int x0), .val (.int x1), .val (.int x2), .val (.int x3), .val (.int x4), .val (.int x5), .val (.int z1), .val (.int z2), .val (.int (0 : Int32)), .val (.ref b4), .val (.ref b18), .val (.ref b209), .val (.ref b220), .val (.ref b231), .val (.ref b239), .val (.ref b247), .val (.ref b255), .val (.ref b263), .val (.ref b271), .val (.int ((x0 &&& (2147483647 : Int32)) % (7 : Int32))), .val .null, .unset, .unset, .unset, .unset]) rfl k_) ?_
                    show own_Goes p e below (T276.setTop (mkF m 300 #[.val (.int x0), .val (.int x1), .val (.int x2), .val (.int x3), .val (.int x4), .val (.int x5), .val (.int z1), .val (.int z2), .val (.int (0 : Int32)), .val (.ref b4), .val (.ref b18), .val (.ref b209), .val (.ref b220), .val (.ref b231), .val (.ref b239), .val (.ref b247), .val (.ref b255), .val (.ref b263), .val (.ref b271), .val (.int ((x0 &&& (2147483647 : Int32)) % (7 : Int32))), .val .null, .unset, .unset, .unset, .unset] [])) _
                    refine own_go (fun t_ k_ => XS.iconst X276.here hx rfl (hb hby at_300) k_) ?_
                    show own_Goes p e below (T276.setTop (mkF m 301 #[.val (.int x0), .val (.int x1), .val (.int x2), .val (.int x3), .val (.int x4), .val (.int x5), .val (.int z1), .val (.int z2), .val (.int (0 : Int32)), .val (.ref b4), .val (.ref b18), .val (.ref b209), .val (.ref b220), .val (.ref b231), .val (.ref b239), .val (.ref b247), .val (.ref b255), .val (.ref b263), .val (.ref b271), .val (.int ((x0 &&& (2147483647 : Int32)) % (7 : Int32))), .val .null, .unset, .unset, .unset, .unset] [(.int (0 : Int32))])) _
                    refine own_go (fun t_ k_ => XS.istore X276.here hx rfl (hb hby at_301) rfl (l' := #[.val (.int x0), .val (.int x1), .val (.int x2), .val (.int x3), .val (.int x4), .val (.int x5), .val (.int z1), .val (.int z2), .val (.int (0 : Int32)), .val (.ref b4), .val (.ref b18), .val (.ref b209), .val (.ref b220), .val (.ref b231), .val (.ref b239), .val (.ref b247), .val (.ref b255), .val (.ref b263), .val (.ref b271), .val (.int ((x0 &&& (2147483647 : Int32)) % (7 : Int32))), .val .null, .val (.int (0 : Int32)), .unset, .unset, .unset]) rfl k_) ?_
                    show own_Goes p e below (T276.setTop (mkF m 303 #[.val (.int x0), .val (.int x1), .val (.int x2), .val (.int x3), .val (.int x4), .val (.int x5), .val (.int z1), .val (.int z2), .val (.int (0 : Int32)), .val (.ref b4), .val (.ref b18), .val (.ref b209), .val (.ref b220), .val (.ref b231), .val (.ref b239), .val (.ref b247), .val (.ref b255), .val (.ref b263), .val (.ref b271), .val (.int ((x0 &&& (2147483647 : Int32)) % (7 : Int32))), .val .null, .val (.int (0 : Int32)), .unset, .unset, .unset] [])) _
                    refine own_go (fun t_ k_ => XS.goto X276.here hx rfl (pc0 := 303) (pc' := 329) rfl (hb hby at_303) (by decide) (by decide) k_) ?_
                    show own_Goes p e below (T276.setTop (mkF m 329 #[.val (.int x0), .val (.int x1), .val (.int x2), .val (.int x3), .val (.int x4), .val (.int x5), .val (.int z1), .val (.int z2), .val (.int (0 : Int32)), .val (.ref b4), .val (.ref b18), .val (.ref b209), .val (.ref b220), .val (.ref b231), .val (.ref b239), .val (.ref b247), .val (.ref b255), .val (.ref b263), .val (.ref b271), .val (.int ((x0 &&& (2147483647 : Int32)) % (7 : Int32))), .val .null, .val (.int (0 : Int32)), .unset, .unset, .unset] [])) _
                    refine own_go (fun t_ k_ => XS.aload X276.here hx rfl (hb hby at_329) rfl rfl k_) ?_
                    show own_Goes p e below (T276.setTop (mkF m 331 #[.val (.int x0), .val (.int x1), .val (.int x2), .val (.int x3), .val (.int x4), .val (.int x5), .val (.int z1), .val (.int z2), .val (.int (0 : Int32)), .val (.ref b4), .val (.ref b18), .val (.ref b209), .val (.ref b220), .val (.ref b231), .val (.ref b239), .val (.ref b247), .val (.ref b255), .val (.ref b263), .val (.ref b271), .val (.int ((x0 &&& (2147483647 : Int32)) % (7 : Int32))), .val .null, .val (.int (0 : Int32)), .unset, .unset, .unset] [(.ref b247)])) _
                    refine own_go (fun t_ k_ => XS.aload X276.here hx rfl (hb hby at_331) rfl rfl k_) ?_
                    show own_Goes p e below (T276.setTop (mkF m 333 #[.val (.int x0), .val (.int x1), .val (.int x2), .val (.int x3), .val (.int x4), .val (.int x5), .val (.int z1), .val (.int z2), .val (.int (0 : Int32)), .val (.ref b4), .val (.ref b18), .val (.ref b209), .val (.ref b220), .val (.ref b231), .val (.ref b239), .val (.ref b247), .val (.ref b255), .val (.ref b263), .val (.ref b271), .val (.int ((x0 &&& (2147483647 : Int32)) % (7 : Int32))), .val .null, .val (.int (0 : Int32)), .unset, .unset, .unset] [.null, (.ref b247)])) _
                    have f333 := (((((((A247.keep Kc252).ext E255).keep Kc260).ext E263).keep Kc268).ext E271).keep Kc276)
                    obtain ⟨cqiv334, kqiv334, qiv334a, qiv334b, qiv334c⟩ := isOf hZ276 e276 f333
                    obtain ⟨_, _, ⟨T335, L335, k335, n335⟩, -, X335, ⟨Lc335, hQ335, l335, y335, z335⟩, st335⟩ := X276.virtualBack hx (y := own_m12) (z := own_m12) hown276 (mvT hZ276 (hw _ (List.mem_of_getElem? (i := 80) rfl))) (mvT hZ276 (hw _ (List.mem_of_getElem? (i := 81) rfl))) (notFace_of_selects (args := #[]) (mvT hZ276 (hw _ (List.mem_of_getElem? (i := 83) rfl)))) (mvT hZ276 (hw _ (List.mem_of_getElem? (i := 83) rfl))) (mvT hZ276 (hw _ (List.mem_of_getElem? (i := 82) rfl))) (by decide) (backOf (W := 0) (own_eqN l Z a0 hw [] b247 h276 n0 O277) hZ276 (hw _ (List.mem_of_getElem? (i := 84) rfl)) (hw _ (List.mem_of_getElem? (i := 51) rfl)) (by decide) (by decide)) qiv334a qiv334c (g := (mkF m 333 #[.val (.int x0), .val (.int x1), .val (.int x2), .val (.int x3), .val (.int x4), .val (.int x5), .val (.int z1), .val (.int z2), .val (.int (0 : Int32)), .val (.ref b4), .val (.ref b18), .val (.ref b209), .val (.ref b220), .val (.ref b231), .val (.ref b239), .val (.ref b247), .val (.ref b255), .val (.ref b263), .val (.ref b271), .val (.int ((x0 &&& (2147483647 : Int32)) % (7 : Int32))), .val .null, .val (.int (0 : Int32)), .unset, .unset, .unset] [.null, (.ref b247)])) rfl (by rw [hml]; rfl) (Steps.refl _) (argsL := [.null]) (rest := []) (lenOf own_pd_11 rfl) rfl (by show 2 * 0 + _ ≤ _; exact Nat.le_of_eq rfl) (hb hby at_333) (fun _ _ => ⟨rfl, e276, (by decide : 24 + 0 ≤ _), (by decide : 168 + 0 ≤ _)⟩)
                    dsimp only [Pt.U, Pt.locs, Pt.cells, Pt.slots] at X335 l335 y335 z335 st335 hQ335
                    subst l335 y335 z335
                    obtain ⟨Nc335, e335, rfl⟩ := hQ335
                    have N335 := Fr.app N276 Nc335
                    refine own_goS st335 ?_
                    show own_Goes p e below (T335.setTop (mkF m 336 #[.val (.int x0), .val (.int x1), .val (.int x2), .val (.int x3), .val (.int x4), .val (.int x5), .val (.int z1), .val (.int z2), .val (.int (0 : Int32)), .val (.ref b4), .val (.ref b18), .val (.ref b209), .val (.ref b220), .val (.ref b231), .val (.ref b239), .val (.ref b247), .val (.ref b255), .val (.ref b263), .val (.ref b271), .val (.int ((x0 &&& (2147483647 : Int32)) % (7 : Int32))), .val .null, .val (.int (0 : Int32)), .unset, .unset, .unset] [(.int (0 : Int32))])) _
                    refine own_go (fun t_ k_ => XS.istore X335.here hx rfl (hb hby at_336) rfl (l' := #[.val (.int x0), .val (.int x1), .val (.int x2), .val (.int x3), .val (.int x4), .val (.int x5), .val (.int z1), .val (.int z2), .val (.int (0 : Int32)), .val (.ref b4), .val (.ref b18), .val (.ref b209), .val (.ref b220), .val (.ref b231), .val (.ref b239), .val (.ref b247), .val (.ref b255), .val (.ref b263), .val (.ref b271), .val (.int ((x0 &&& (2147483647 : Int32)) % (7 : Int32))), .val .null, .val (.int (0 : Int32)), .val (.int (0 : Int32)), .unset, .unset]) rfl k_) ?_
                    show own_Goes p e below (T335.setTop (mkF m 338 #[.val (.int x0), .val (.int x1), .val (.int x2), .val (.int x3), .val (.int x4), .val (.int x5), .val (.int z1), .val (.int z2), .val (.int (0 : Int32)), .val (.ref b4), .val (.ref b18), .val (.ref b209), .val (.ref b220), .val (.ref b231), .val (.ref b239), .val (.ref b247), .val (.ref b255), .val (.ref b263), .val (.ref b271), .val (.int ((x0 &&& (2147483647 : Int32)) % (7 : Int32))), .val .null, .val (.int (0 : Int32)), .val (.int (0 : Int32)), .unset, .unset] [])) _
                    refine own_go (fun t_ k_ => XS.aload X335.here hx rfl (hb hby at_338) rfl rfl k_) ?_
                    show own_Goes p e below (T335.setTop (mkF m 340 #[.val (.int x0), .val (.int x1), .val (.int x2), .val (.int x3), .val (.int x4), .val (.int x5), .val (.int z1), .val (.int z2), .val (.int (0 : Int32)), .val (.ref b4), .val (.ref b18), .val (.ref b209), .val (.ref b220), .val (.ref b231), .val (.ref b239), .val (.ref b247), .val (.ref b255), .val (.ref b263), .val (.ref b271), .val (.int ((x0 &&& (2147483647 : Int32)) % (7 : Int32))), .val .null, .val (.int (0 : Int32)), .val (.int (0 : Int32)), .unset, .unset] [(.ref b255)])) _
                    refine own_go (fun t_ k_ => XS.aload X335.here hx rfl (hb hby at_340) rfl rfl k_) ?_
                    show own_Goes p e below (T335.setTop (mkF m 342 #[.val (.int x0), .val (.int x1), .val (.int x2), .val (.int x3), .val (.int x4), .val (.int x5), .val (.int z1), .val (.int z2), .val (.int (0 : Int32)), .val (.ref b4), .val (.ref b18), .val (.ref b209), .val (.ref b220), .val (.ref b231), .val (.ref b239), .val (.ref b247), .val (.ref b255), .val (.ref b263), .val (.ref b271), .val (.int ((x0 &&& (2147483647 : Int32)) % (7 : Int32))), .val .null, .val (.int (0 : Int32)), .val (.int (0 : Int32)), .unset, .unset] [(.ref b247), (.ref b255)])) _
                    have f336 := ((((c260_0.ext E263).keep Kc268 (ninS (own_ne (a := b255) (b := b263) (by omega)) nin0)).ext E271).keep Kc276 (ninS (own_ne (a := b255) (b := b271) (by omega)) nin0))
                    have f337 := ((((((c252_0.ext E255).keep Kc260 (ninS (own_ne (a := b247) (b := b255) (by omega)) nin0)).ext E263).keep Kc268 (ninS (own_ne (a := b247) (b := b263) (by omega)) nin0)).ext E271).keep Kc276 (ninS (own_ne (a := b247) (b := b271) (by omega)) nin0))
                    have f338 := (((((A255.keep Kc260).ext E263).keep Kc268).ext E271).keep Kc276)
                    obtain ⟨cqiv339, kqiv339, qiv339a, qiv339b, qiv339c⟩ := isOf hZ276 e335 f338
                    obtain ⟨_, _, ⟨T340, L340, k340, n340⟩, -, X340, ⟨Lc340, hQ340, l340, y340, z340⟩, st340⟩ := X335.virtualBack hx (y := own_m12) (z := own_m12) hown276 (mvT hZ276 (hw _ (List.mem_of_getElem? (i := 80) rfl))) (mvT hZ276 (hw _ (List.mem_of_getElem? (i := 81) rfl))) (notFace_of_selects (args := #[]) (mvT hZ276 (hw _ (List.mem_of_getElem? (i := 83) rfl)))) (mvT hZ276 (hw _ (List.mem_of_getElem? (i := 83) rfl))) (mvT hZ276 (hw _ (List.mem_of_getElem? (i := 82) rfl))) (by decide) (backOf (W := 0) (own_eqT l Z a0 hw [] b255 b247 b231 h276 n0 O277 f333 f336 f337) hZ276 (hw _ (List.mem_of_getElem? (i := 84) rfl)) (hw _ (List.mem_of_getElem? (i := 51) rfl)) (by decide) (by decide)) qiv339a qiv339c (g := (mkF m 342 #[.val (.int x0), .val (.int x1), .val (.int x2), .val (.int x3), .val (.int x4), .val (.int x5), .val (.int z1), .val (.int z2), .val (.int (0 : Int32)), .val (.ref b4), .val (.ref b18), .val (.ref b209), .val (.ref b220), .val (.ref b231), .val (.ref b239), .val (.ref b247), .val (.ref b255), .val (.ref b263), .val (.ref b271), .val (.int ((x0 &&& (2147483647 : Int32)) % (7 : Int32))), .val .null, .val (.int (0 : Int32)), .val (.int (0 : Int32)), .unset, .unset] [(.ref b247), (.ref b255)])) rfl (by rw [hml]; rfl) (Steps.refl _) (argsL := [(.ref b247)]) (rest := []) (lenOf own_pd_11 rfl) rfl (by show 2 * 0 + _ ≤ _; exact Nat.le_of_eq rfl) (hb hby at_342) (fun _ _ => ⟨rfl, e335, (by decide : 24 + 0 ≤ _), (by decide : 168 + 0 ≤ _)⟩)
                    dsimp only [Pt.U, Pt.locs, Pt.cells, Pt.slots] at X340 l340 y340 z340 st340 hQ340
                    subst l340 y340 z340
                    obtain ⟨Nc340, e340, rfl⟩ := hQ340
                    have N340 := Fr.app N335 Nc340
                    refine own_goS st340 ?_
                    show own_Goes p e below (T340.setTop (mkF m 345 #[.val (.int x0), .val (.int x1), .val (.int x2), .val (.int x3), .val (.int x4), .val (.int x5), .val (.int z1), .val (.int z2), .val (.int (0 : Int32)), .val (.ref b4), .val (.ref b18), .val (.ref b209), .val (.ref b220), .val (.ref b231), .val (.ref b239), .val (.ref b247), .val (.ref b255), .val (.ref b263), .val (.ref b271), .val (.int ((x0 &&& (2147483647 : Int32)) % (7 : Int32))), .val .null, .val (.int (0 : Int32)), .val (.int (0 : Int32)), .unset, .unset] [(.int (1 : Int32))])) _
                    refine own_go (fun t_ k_ => XS.istore X340.here hx rfl (hb hby at_345) rfl (l' := #[.val (.int x0), .val (.int x1), .val (.int x2), .val (.int x3), .val (.int x4), .val (.int x5), .val (.int z1), .val (.int z2), .val (.int (0 : Int32)), .val (.ref b4), .val (.ref b18), .val (.ref b209), .val (.ref b220), .val (.ref b231), .val (.ref b239), .val (.ref b247), .val (.ref b255), .val (.ref b263), .val (.ref b271), .val (.int ((x0 &&& (2147483647 : Int32)) % (7 : Int32))), .val .null, .val (.int (0 : Int32)), .val (.int (0 : Int32)), .val (.int (1 : Int32)), .unset]) rfl k_) ?_
                    show own_Goes p e below (T340.setTop (mkF m 347 #[.val (.int x0), .val (.int x1), .val (.int x2), .val (.int x3), .val (.int x4), .val (.int x5), .val (.int z1), .val (.int z2), .val (.int (0 : Int32)), .val (.ref b4), .val (.ref b18), .val (.ref b209), .val (.ref b220), .val (.ref b231), .val (.ref b239), .val (.ref b247), .val (.ref b255), .val (.ref b263), .val (.ref b271), .val (.int ((x0 &&& (2147483647 : Int32)) % (7 : Int32))), .val .null, .val (.int (0 : Int32)), .val (.int (0 : Int32)), .val (.int (1 : Int32)), .unset] [])) _
                    refine own_go (fun t_ k_ => XS.aload X340.here hx rfl (hb hby at_347) rfl rfl k_) ?_
                    show own_Goes p e below (T340.setTop (mkF m 349 #[.val (.int x0), .val (.int x1), .val (.int x2), .val (.int x3), .val (.int x4), .val (.int x5), .val (.int z1), .val (.int z2), .val (.int (0 : Int32)), .val (.ref b4), .val (.ref b18), .val (.ref b209), .val (.ref b220), .val (.ref b231), .val (.ref b239), .val (.ref b247), .val (.ref b255), .val (.ref b263), .val (.ref b271), .val (.int ((x0 &&& (2147483647 : Int32)) % (7 : Int32))), .val .null, .val (.int (0 : Int32)), .val (.int (0 : Int32)), .val (.int (1 : Int32)), .unset] [(.ref b263)])) _
                    refine own_go (fun t_ k_ => XS.aload X340.here hx rfl (hb hby at_349) rfl rfl k_) ?_
                    show own_Goes p e below (T340.setTop (mkF m 351 #[.val (.int x0), .val (.int x1), .val (.int x2), .val (.int x3), .val (.int x4), .val (.int x5), .val (.int z1), .val (.int z2), .val (.int (0 : Int32)), .val (.ref b4), .val (.ref b18), .val (.ref b209), .val (.ref b220), .val (.ref b231), .val (.ref b239), .val (.ref b247), .val (.ref b255), .val (.ref b263), .val (.ref b271), .val (.int ((x0 &&& (2147483647 : Int32)) % (7 : Int32))), .val .null, .val (.int (0 : Int32)), .val (.int (0 : Int32)), .val (.int (1 : Int32)), .unset] [(.ref b247), (.ref b263)])) _
                    have f341 := ((c268_0.ext E271).keep Kc276 (ninS (own_ne (a := b263) (b := b271) (by omega)) nin0))
                    have f342 := (((A263.keep Kc268).ext E271).keep Kc276)
                    obtain ⟨cqiv343, kqiv343, qiv343a, qiv343b, qiv343c⟩ := isOf hZ276 e340 f342
                    obtain ⟨_, _, ⟨T344, L344, k344, n344⟩, -, X344, ⟨Lc344, hQ344, l344, y344, z344⟩, st344⟩ := X340.virtualBack hx (y := own_m12) (z := own_m12) hown276 (mvT hZ276 (hw _ (List.mem_of_getElem? (i := 80) rfl))) (mvT hZ276 (hw _ (List.mem_of_getElem? (i := 81) rfl))) (notFace_of_selects (args := #[]) (mvT hZ276 (hw _ (List.mem_of_getElem? (i := 83) rfl)))) (mvT hZ276 (hw _ (List.mem_of_getElem? (i := 83) rfl))) (mvT hZ276 (hw _ (List.mem_of_getElem? (i := 82) rfl))) (by decide) (backOf (W := 0) (own_eqF l Z a0 hw [] b263 b247 b239 b231 h276 n0 O277 f333 f341 f337 (show ¬ b231 = b239 from (by omega))) hZ276 (hw _ (List.mem_of_getElem? (i := 84) rfl)) (hw _ (List.mem_of_getElem? (i := 51) rfl)) (by decide) (by decide)) qiv343a qiv343c (g := (mkF m 351 #[.val (.int x0), .val (.int x1), .val (.int x2), .val (.int x3), .val (.int x4), .val (.int x5), .val (.int z1), .val (.int z2), .val (.int (0 : Int32)), .val (.ref b4), .val (.ref b18), .val (.ref b209), .val (.ref b220), .val (.ref b231), .val (.ref b239), .val (.ref b247), .val (.ref b255), .val (.ref b263), .val (.ref b271), .val (.int ((x0 &&& (2147483647 : Int32)) % (7 : Int32))), .val .null, .val (.int (0 : Int32)), .val (.int (0 : Int32)), .val (.int (1 : Int32)), .unset] [(.ref b247), (.ref b263)])) rfl (by rw [hml]; rfl) (Steps.refl _) (argsL := [(.ref b247)]) (rest := []) (lenOf own_pd_11 rfl) rfl (by show 2 * 0 + _ ≤ _; exact Nat.le_of_eq rfl) (hb hby at_351) (fun _ _ => ⟨rfl, e340, (by decide : 24 + 0 ≤ _), (by decide : 168 + 0 ≤ _)⟩)
                    dsimp only [Pt.U, Pt.locs, Pt.cells, Pt.slots] at X344 l344 y344 z344 st344 hQ344
                    subst l344 y344 z344
                    obtain ⟨Nc344, e344, rfl⟩ := hQ344
                    have N344 := Fr.app N340 Nc344
                    refine own_goS st344 ?_
                    show own_Goes p e below (T344.setTop (mkF m 354 #[.val (.int x0), .val (.int x1), .val (.int x2), .val (.int x3), .val (.int x4), .val (.int x5), .val (.int z1), .val (.int z2), .val (.int (0 : Int32)), .val (.ref b4), .val (.ref b18), .val (.ref b209), .val (.ref b220), .val (.ref b231), .val (.ref b239), .val (.ref b247), .val (.ref b255), .val (.ref b263), .val (.ref b271), .val (.int ((x0 &&& (2147483647 : Int32)) % (7 : Int32))), .val .null, .val (.int (0 : Int32)), .val (.int (0 : Int32)), .val (.int (1 : Int32)), .unset] [(.int (0 : Int32))])) _
                    refine own_go (fun t_ k_ => XS.istore X344.here hx rfl (hb hby at_354) rfl (l' := #[.val (.int x0), .val (.int x1), .val (.int x2), .val (.int x3), .val (.int x4), .val (.int x5), .val (.int z1), .val (.int z2), .val (.int (0 : Int32)), .val (.ref b4), .val (.ref b18), .val (.ref b209), .val (.ref b220), .val (.ref b231), .val (.ref b239), .val (.ref b247), .val (.ref b255), .val (.ref b263), .val (.ref b271), .val (.int ((x0 &&& (2147483647 : Int32)) % (7 : Int32))), .val .null, .val (.int (0 : Int32)), .val (.int (0 : Int32)), .val (.int (1 : Int32)), .val (.int (0 : Int32))]) rfl k_) ?_
                    show own_Goes p e below (T344.setTop (mkF m 356 #[.val (.int x0), .val (.int x1), .val (.int x2), .val (.int x3), .val (.int x4), .val (.int x5), .val (.int z1), .val (.int z2), .val (.int (0 : Int32)), .val (.ref b4), .val (.ref b18), .val (.ref b209), .val (.ref b220), .val (.ref b231), .val (.ref b239), .val (.ref b247), .val (.ref b255), .val (.ref b263), .val (.ref b271), .val (.int ((x0 &&& (2147483647 : Int32)) % (7 : Int32))), .val .null, .val (.int (0 : Int32)), .val (.int (0 : Int32)), .val (.int (1 : Int32)), .val (.int (0 : Int32))] [])) _
                    refine own_go (fun t_ k_ => XS.iload X344.here hx rfl (hb hby at_356) rfl k_) ?_
                    show own_Goes p e below (T344.setTop (mkF m 358 #[.val (.int x0), .val (.int x1), .val (.int x2), .val (.int x3), .val (.int x4), .val (.int x5), .val (.int z1), .val (.int z2), .val (.int (0 : Int32)), .val (.ref b4), .val (.ref b18), .val (.ref b209), .val (.ref b220), .val (.ref b231), .val (.ref b239), .val (.ref b247), .val (.ref b255), .val (.ref b263), .val (.ref b271), .val (.int ((x0 &&& (2147483647 : Int32)) % (7 : Int32))), .val .null, .val (.int (0 : Int32)), .val (.int (0 : Int32)), .val (.int (1 : Int32)), .val (.int (0 : Int32))] [(.int (0 : Int32))])) _
                    refine own_go (fun t_ k_ => XS.iload X344.here hx rfl (hb hby at_358) rfl k_) ?_
                    show own_Goes p e below (T344.setTop (mkF m 360 #[.val (.int x0), .val (.int x1), .val (.int x2), .val (.int x3), .val (.int x4), .val (.int x5), .val (.int z1), .val (.int z2), .val (.int (0 : Int32)), .val (.ref b4), .val (.ref b18), .val (.ref b209), .val (.ref b220), .val (.ref b231), .val (.ref b239), .val (.ref b247), .val (.ref b255), .val (.ref b263), .val (.ref b271), .val (.int ((x0 &&& (2147483647 : Int32)) % (7 : Int32))), .val .null, .val (.int (0 : Int32)), .val (.int (0 : Int32)), .val (.int (1 : Int32)), .val (.int (0 : Int32))] [(.int (0 : Int32)), (.int (0 : Int32))])) _
                    refine own_go (fun t_ k_ => XS.icmpNo X344.here hx rfl (hb hby at_360) rfl (teq (show ((0 : Int32) = (0 : Int32)) from by decide)).2 k_) ?_
                    show own_Goes p e below (T344.setTop (mkF m 363 #[.val (.int x0), .val (.int x1), .val (.int x2), .val (.int x3), .val (.int x4), .val (.int x5), .val (.int z1), .val (.int z2), .val (.int (0 : Int32)), .val (.ref b4), .val (.ref b18), .val (.ref b209), .val (.ref b220), .val (.ref b231), .val (.ref b239), .val (.ref b247), .val (.ref b255), .val (.ref b263), .val (.ref b271), .val (.int ((x0 &&& (2147483647 : Int32)) % (7 : Int32))), .val .null, .val (.int (0 : Int32)), .val (.int (0 : Int32)), .val (.int (1 : Int32)), .val (.int (0 : Int32))] [])) _
                    refine own_go (fun t_ k_ => XS.iload X344.here hx rfl (hb hby at_363) rfl k_) ?_
                    show own_Goes p e below (T344.setTop (mkF m 365 #[.val (.int x0), .val (.int x1), .val (.int x2), .val (.int x3), .val (.int x4), .val (.int x5), .val (.int z1), .val (.int z2), .val (.int (0 : Int32)), .val (.ref b4), .val (.ref b18), .val (.ref b209), .val (.ref b220), .val (.ref b231), .val (.ref b239), .val (.ref b247), .val (.ref b255), .val (.ref b263), .val (.ref b271), .val (.int ((x0 &&& (2147483647 : Int32)) % (7 : Int32))), .val .null, .val (.int (0 : Int32)), .val (.int (0 : Int32)), .val (.int (1 : Int32)), .val (.int (0 : Int32))] [(.int (1 : Int32))])) _
                    refine own_go (fun t_ k_ => XS.ifNo X344.here hx rfl (hb hby at_365) rfl ((if0 _ _).trans (feq (show ¬ ((1 : Int32) = (0 : Int32)) from by decide)).1) k_) ?_
                    show own_Goes p e below (T344.setTop (mkF m 368 #[.val (.int x0), .val (.int x1), .val (.int x2), .val (.int x3), .val (.int x4), .val (.int x5), .val (.int z1), .val (.int z2), .val (.int (0 : Int32)), .val (.ref b4), .val (.ref b18), .val (.ref b209), .val (.ref b220), .val (.ref b231), .val (.ref b239), .val (.ref b247), .val (.ref b255), .val (.ref b263), .val (.ref b271), .val (.int ((x0 &&& (2147483647 : Int32)) % (7 : Int32))), .val .null, .val (.int (0 : Int32)), .val (.int (0 : Int32)), .val (.int (1 : Int32)), .val (.int (0 : Int32))] [])) _
                    refine own_go (fun t_ k_ => XS.iload X344.here hx rfl (hb hby at_368) rfl k_) ?_
                    show own_Goes p e below (T344.setTop (mkF m 370 #[.val (.int x0), .val (.int x1), .val (.int x2), .val (.int x3), .val (.int x4), .val (.int x5), .val (.int z1), .val (.int z2), .val (.int (0 : Int32)), .val (.ref b4), .val (.ref b18), .val (.ref b209), .val (.ref b220), .val (.ref b231), .val (.ref b239), .val (.ref b247), .val (.ref b255), .val (.ref b263), .val (.ref b271), .val (.int ((x0 &&& (2147483647 : Int32)) % (7 : Int32))), .val .null, .val (.int (0 : Int32)), .val (.int (0 : Int32)), .val (.int (1 : Int32)), .val (.int (0 : Int32))] [(.int (0 : Int32))])) _
                    refine own_go (fun t_ k_ => XS.ifNo X344.here hx rfl (hb hby at_370) rfl ((if0 _ _).trans (teq (show ((0 : Int32) = (0 : Int32)) from by decide)).2) k_) ?_
                    show own_Goes p e below (T344.setTop (mkF m 373 #[.val (.int x0), .val (.int x1), .val (.int x2), .val (.int x3), .val (.int x4), .val (.int x5), .val (.int z1), .val (.int z2), .val (.int (0 : Int32)), .val (.ref b4), .val (.ref b18), .val (.ref b209), .val (.ref b220), .val (.ref b231), .val (.ref b239), .val (.ref b247), .val (.ref b255), .val (.ref b263), .val (.ref b271), .val (.int ((x0 &&& (2147483647 : Int32)) % (7 : Int32))), .val .null, .val (.int (0 : Int32)), .val (.int (0 : Int32)), .val (.int (1 : Int32)), .val (.int (0 : Int32))] [])) _
                    refine own_go (fun t_ k_ => XS.iconst X344.here hx rfl (hb hby at_373) k_) ?_
                    show own_Goes p e below (T344.setTop (mkF m 374 #[.val (.int x0), .val (.int x1), .val (.int x2), .val (.int x3), .val (.int x4), .val (.int x5), .val (.int z1), .val (.int z2), .val (.int (0 : Int32)), .val (.ref b4), .val (.ref b18), .val (.ref b209), .val (.ref b220), .val (.ref b231), .val (.ref b239), .val (.ref b247), .val (.ref b255), .val (.ref b263), .val (.ref b271), .val (.int ((x0 &&& (2147483647 : Int32)) % (7 : Int32))), .val .null, .val (.int (0 : Int32)), .val (.int (0 : Int32)), .val (.int (1 : Int32)), .val (.int (0 : Int32))] [(.int (1 : Int32))])) _
                    refine own_go (fun t_ k_ => XS.goto X344.here hx rfl (pc0 := 374) (pc' := 378) rfl (hb hby at_374) (by decide) (by decide) k_) ?_
                    show own_Goes p e below (T344.setTop (mkF m 378 #[.val (.int x0), .val (.int x1), .val (.int x2), .val (.int x3), .val (.int x4), .val (.int x5), .val (.int z1), .val (.int z2), .val (.int (0 : Int32)), .val (.ref b4), .val (.ref b18), .val (.ref b209), .val (.ref b220), .val (.ref b231), .val (.ref b239), .val (.ref b247), .val (.ref b255), .val (.ref b263), .val (.ref b271), .val (.int ((x0 &&& (2147483647 : Int32)) % (7 : Int32))), .val .null, .val (.int (0 : Int32)), .val (.int (0 : Int32)), .val (.int (1 : Int32)), .val (.int (0 : Int32))] [(.int (1 : Int32))])) _
                    refine own_endW X344 hS276 (show _ ≤ T344.heap.size by rw [e344]; exact hk276) (v := (some (.int (1 : Int32)))) (fun h => by rw [hret] at h; cases h) hlk (by decide) (by decide) ?_ (fun fs hr => retOut X344 hx hret rfl (Or.inl ⟨rfl, Or.inr (Or.inl rfl), _, rfl⟩) (hb hby at_378) hr)
                    show Q_rm0 Z x0 x1 x2 x3 x4 x5 gz h0 n0 _ T344.heap _
                    rw [e344]
                    exact ⟨N344, trivial, rfl⟩
                  · refine own_go (fun t_ k_ => XS.icmpYes X276.here hx rfl (pc0 := 294) (pc' := 306) rfl (hb hby at_294) rfl (feq hc332).2 (by decide) (by decide) k_) ?_
                    show own_Goes p e below (T276.setTop (mkF m 306 #[.val (.int x0), .val (.int x1), .val (.int x2), .val (.int x3), .val (.int x4), .val (.int x5), .val (.int z1), .val (.int z2), .val (.int (0 : Int32)), .val (.ref b4), .val (.ref b18), .val (.ref b209), .val (.ref b220), .val (.ref b231), .val (.ref b239), .val (.ref b247), .val (.ref b255), .val (.ref b263), .val (.ref b271), .val (.int ((x0 &&& (2147483647 : Int32)) % (7 : Int32))), .unset, .unset, .unset, .unset, .unset] [])) _
                    refine own_go (fun t_ k_ => XS.iload X276.here hx rfl (hb hby at_306) rfl k_) ?_
                    show own_Goes p e below (T276.setTop (mkF m 308 #[.val (.int x0), .val (.int x1), .val (.int x2), .val (.int x3), .val (.int x4), .val (.int x5), .val (.int z1), .val (.int z2), .val (.int (0 : Int32)), .val (.ref b4), .val (.ref b18), .val (.ref b209), .val (.ref b220), .val (.ref b231), .val (.ref b239), .val (.ref b247), .val (.ref b255), .val (.ref b263), .val (.ref b271), .val (.int ((x0 &&& (2147483647 : Int32)) % (7 : Int32))), .unset, .unset, .unset, .unset, .unset] [(.int ((x0 &&& (2147483647 : Int32)) % (7 : Int32)))])) _
                    refine own_go (fun t_ k_ => XS.iconst X276.here hx rfl (hb hby at_308) k_) ?_
                    show own_Goes p e below (T276.setTop (mkF m 309 #[.val (.int x0), .val (.int x1), .val (.int x2), .val (.int x3), .val (.int x4), .val (.int x5), .val (.int z1), .val (.int z2), .val (.int (0 : Int32)), .val (.ref b4), .val (.ref b18), .val (.ref b209), .val (.ref b220), .val (.ref b231), .val (.ref b239), .val (.ref b247), .val (.ref b255), .val (.ref b263), .val (.ref b271), .val (.int ((x0 &&& (2147483647 : Int32)) % (7 : Int32))), .unset, .unset, .unset, .unset, .unset] [(.int (5 : Int32)), (.int ((x0 &&& (2147483647 : Int32)) % (7 : Int32)))])) _
                    by_cases hc345 : ((x0 &&& (2147483647 : Int32)) % (7 : Int32)) = (5 : Int32)
                    · refine own_go (fun t_ k_ => XS.icmpNo X276.here hx rfl (hb hby at_309) rfl (teq hc345).2 k_) ?_
                      show own_Goes p e below (T276.setTop (mkF m 312 #[.val (.int x0), .val (.int x1), .val (.int x2), .val (.int x3), .val (.int x4), .val (.int x5), .val (.int z1), .val (.int z2), .val (.int (0 : Int32)), .val (.ref b4), .val (.ref b18), .val (.ref b209), .val (.ref b220), .val (.ref b231), .val (.ref b239), .val (.ref b247), .val (.ref b255), .val (.ref b263), .val (.ref b271), .val (.int ((x0 &&& (2147483647 : Int32)) % (7 : Int32))), .unset, .unset, .unset, .unset, .unset] [])) _
                      refine own_go (fun t_ k_ => XS.aload X276.here hx rfl (hb hby at_312) rfl rfl k_) ?_
                      show own_Goes p e below (T276.setTop (mkF m 314 #[.val (.int x0), .val (.int x1), .val (.int x2), .val (.int x3), .val (.int x4), .val (.int x5), .val (.int z1), .val (.int z2), .val (.int (0 : Int32)), .val (.ref b4), .val (.ref b18), .val (.ref b209), .val (.ref b220), .val (.ref b231), .val (.ref b239), .val (.ref b247), .val (.ref b255), .val (.ref b263), .val (.ref b271), .val (.int ((x0 &&& (2147483647 : Int32)) % (7 : Int32))), .unset, .unset, .unset, .unset, .unset] [(.ref b231)])) _
                      refine own_go (fun t_ k_ => XS.astore X276.here hx rfl (hb hby at_314) rfl rfl (l' := #[.val (.int x0), .val (.int x1), .val (.int x2), .val (.int x3), .val (.int x4), .val (.int x5), .val (.int z1), .val (.int z2), .val (.int (0 : Int32)), .val (.ref b4), .val (.ref b18), .val (.ref b209), .val (.ref b220), .val (.ref b231), .val (.ref b239), .val (.ref b247), .val (.ref b255), .val (.ref b263), .val (.ref b271), .val (.int ((x0 &&& (2147483647 : Int32)) % (7 : Int32))), .val (.ref b231), .unset, .unset, .unset, .unset]) rfl k_) ?_
                      show own_Goes p e below (T276.setTop (mkF m 316 #[.val (.int x0), .val (.int x1), .val (.int x2), .val (.int x3), .val (.int x4), .val (.int x5), .val (.int z1), .val (.int z2), .val (.int (0 : Int32)), .val (.ref b4), .val (.ref b18), .val (.ref b209), .val (.ref b220), .val (.ref b231), .val (.ref b239), .val (.ref b247), .val (.ref b255), .val (.ref b263), .val (.ref b271), .val (.int ((x0 &&& (2147483647 : Int32)) % (7 : Int32))), .val (.ref b231), .unset, .unset, .unset, .unset] [])) _
                      refine own_go (fun t_ k_ => XS.iconst X276.here hx rfl (hb hby at_316) k_) ?_
                      show own_Goes p e below (T276.setTop (mkF m 317 #[.val (.int x0), .val (.int x1), .val (.int x2), .val (.int x3), .val (.int x4), .val (.int x5), .val (.int z1), .val (.int z2), .val (.int (0 : Int32)), .val (.ref b4), .val (.ref b18), .val (.ref b209), .val (.ref b220), .val (.ref b231), .val (.ref b239), .val (.ref b247), .val (.ref b255), .val (.ref b263), .val (.ref b271), .val (.int ((x0 &&& (2147483647 : Int32)) % (7 : Int32))), .val (.ref b231), .unset, .unset, .unset, .unset] [(.int (0 : Int32))])) _
                      refine own_go (fun t_ k_ => XS.istore X276.here hx rfl (hb hby at_317) rfl (l' := #[.val (.int x0), .val (.int x1), .val (.int x2), .val (.int x3), .val (.int x4), .val (.int x5), .val (.int z1), .val (.int z2), .val (.int (0 : Int32)), .val (.ref b4), .val (.ref b18), .val (.ref b209), .val (.ref b220), .val (.ref b231), .val (.ref b239), .val (.ref b247), .val (.ref b255), .val (.ref b263), .val (.ref b271), .val (.int ((x0 &&& (2147483647 : Int32)) % (7 : Int32))), .val (.ref b231), .val (.int (0 : Int32)), .unset, .unset, .unset]) rfl k_) ?_
                      show own_Goes p e below (T276.setTop (mkF m 319 #[.val (.int x0), .val (.int x1), .val (.int x2), .val (.int x3), .val (.int x4), .val (.int x5), .val (.int z1), .val (.int z2), .val (.int (0 : Int32)), .val (.ref b4), .val (.ref b18), .val (.ref b209), .val (.ref b220), .val (.ref b231), .val (.ref b239), .val (.ref b247), .val (.ref b255), .val (.ref b263), .val (.ref b271), .val (.int ((x0 &&& (2147483647 : Int32)) % (7 : Int32))), .val (.ref b231), .val (.int (0 : Int32)), .unset, .unset, .unset] [])) _
                      refine own_go (fun t_ k_ => XS.goto X276.here hx rfl (pc0 := 319) (pc' := 329) rfl (hb hby at_319) (by decide) (by decide) k_) ?_
                      show own_Goes p e below (T276.setTop (mkF m 329 #[.val (.int x0), .val (.int x1), .val (.int x2), .val (.int x3), .val (.int x4), .val (.int x5), .val (.int z1), .val (.int z2), .val (.int (0 : Int32)), .val (.ref b4), .val (.ref b18), .val (.ref b209), .val (.ref b220), .val (.ref b231), .val (.ref b239), .val (.ref b247), .val (.ref b255), .val (.ref b263), .val (.ref b271), .val (.int ((x0 &&& (2147483647 : Int32)) % (7 : Int32))), .val (.ref b231), .val (.int (0 : Int32)), .unset, .unset, .unset] [])) _
                      refine own_go (fun t_ k_ => XS.aload X276.here hx rfl (hb hby at_329) rfl rfl k_) ?_
                      show own_Goes p e below (T276.setTop (mkF m 331 #[.val (.int x0), .val (.int x1), .val (.int x2), .val (.int x3), .val (.int x4), .val (.int x5), .val (.int z1), .val (.int z2), .val (.int (0 : Int32)), .val (.ref b4), .val (.ref b18), .val (.ref b209), .val (.ref b220), .val (.ref b231), .val (.ref b239), .val (.ref b247), .val (.ref b255), .val (.ref b263), .val (.ref b271), .val (.int ((x0 &&& (2147483647 : Int32)) % (7 : Int32))), .val (.ref b231), .val (.int (0 : Int32)), .unset, .unset, .unset] [(.ref b247)])) _
                      refine own_go (fun t_ k_ => XS.aload X276.here hx rfl (hb hby at_331) rfl rfl k_) ?_
                      show own_Goes p e below (T276.setTop (mkF m 333 #[.val (.int x0), .val (.int x1), .val (.int x2), .val (.int x3), .val (.int x4), .val (.int x5), .val (.int z1), .val (.int z2), .val (.int (0 : Int32)), .val (.ref b4), .val (.ref b18), .val (.ref b209), .val (.ref b220), .val (.ref b231), .val (.ref b239), .val (.ref b247), .val (.ref b255), .val (.ref b263), .val (.ref b271), .val (.int ((x0 &&& (2147483647 : Int32)) % (7 : Int32))), .val (.ref b231), .val (.int (0 : Int32)), .unset, .unset, .unset] [(.ref b231), (.ref b247)])) _
                      have f346 := (((((f259.keep Kc260).ext E263).keep Kc268).ext E271).keep Kc276)
                      have f347 := (((((((A247.keep Kc252).ext E255).keep Kc260).ext E263).keep Kc268).ext E271).keep Kc276)
                      obtain ⟨cqiv348, kqiv348, qiv348a, qiv348b, qiv348c⟩ := isOf hZ276 e276 f347
                      obtain ⟨_, _, ⟨T349, L349, k349, n349⟩, -, X349, ⟨Lc349, hQ349, l349, y349, z349⟩, st349⟩ := X276.virtualBack hx (y := own_m12) (z := own_m12) hown276 (mvT hZ276 (hw _ (List.mem_of_getElem? (i := 80) rfl))) (mvT hZ276 (hw _ (List.mem_of_getElem? (i := 81) rfl))) (notFace_of_selects (args := #[]) (mvT hZ276 (hw _ (List.mem_of_getElem? (i := 83) rfl)))) (mvT hZ276 (hw _ (List.mem_of_getElem? (i := 83) rfl))) (mvT hZ276 (hw _ (List.mem_of_getElem? (i := 82) rfl))) (by decide) (backOf (W := 0) (own_eqO1 l Z a0 hw [] b247 b231 h276 n0 O277 f346) hZ276 (hw _ (List.mem_of_getElem? (i := 84) rfl)) (hw _ (List.mem_of_getElem? (i := 51) rfl)) (by decide) (by decide)) qiv348a qiv348c (g := (mkF m 333 #[.val (.int x0), .val (.int x1), .val (.int x2), .val (.int x3), .val (.int x4), .val (.int x5), .val (.int z1), .val (.int z2), .val (.int (0 : Int32)), .val (.ref b4), .val (.ref b18), .val (.ref b209), .val (.ref b220), .val (.ref b231), .val (.ref b239), .val (.ref b247), .val (.ref b255), .val (.ref b263), .val (.ref b271), .val (.int ((x0 &&& (2147483647 : Int32)) % (7 : Int32))), .val (.ref b231), .val (.int (0 : Int32)), .unset, .unset, .unset] [(.ref b231), (.ref b247)])) rfl (by rw [hml]; rfl) (Steps.refl _) (argsL := [(.ref b231)]) (rest := []) (lenOf own_pd_11 rfl) rfl (by show 2 * 0 + _ ≤ _; exact Nat.le_of_eq rfl) (hb hby at_333) (fun _ _ => ⟨rfl, e276, (by decide : 24 + 0 ≤ _), (by decide : 168 + 0 ≤ _)⟩)
                      dsimp only [Pt.U, Pt.locs, Pt.cells, Pt.slots] at X349 l349 y349 z349 st349 hQ349
                      subst l349 y349 z349
                      obtain ⟨Nc349, e349, rfl⟩ := hQ349
                      have N349 := Fr.app N276 Nc349
                      refine own_goS st349 ?_
                      show own_Goes p e below (T349.setTop (mkF m 336 #[.val (.int x0), .val (.int x1), .val (.int x2), .val (.int x3), .val (.int x4), .val (.int x5), .val (.int z1), .val (.int z2), .val (.int (0 : Int32)), .val (.ref b4), .val (.ref b18), .val (.ref b209), .val (.ref b220), .val (.ref b231), .val (.ref b239), .val (.ref b247), .val (.ref b255), .val (.ref b263), .val (.ref b271), .val (.int ((x0 &&& (2147483647 : Int32)) % (7 : Int32))), .val (.ref b231), .val (.int (0 : Int32)), .unset, .unset, .unset] [(.int (0 : Int32))])) _
                      refine own_go (fun t_ k_ => XS.istore X349.here hx rfl (hb hby at_336) rfl (l' := #[.val (.int x0), .val (.int x1), .val (.int x2), .val (.int x3), .val (.int x4), .val (.int x5), .val (.int z1), .val (.int z2), .val (.int (0 : Int32)), .val (.ref b4), .val (.ref b18), .val (.ref b209), .val (.ref b220), .val (.ref b231), .val (.ref b239), .val (.ref b247), .val (.ref b255), .val (.ref b263), .val (.ref b271), .val (.int ((x0 &&& (2147483647 : Int32)) % (7 : Int32))), .val (.ref b231), .val (.int (0 : Int32)), .val (.int (0 : Int32)), .unset, .unset]) rfl k_) ?_
                      show own_Goes p e below (T349.setTop (mkF m 338 #[.val (.int x0), .val (.int x1), .val (.int x2), .val (.int x3), .val (.int x4), .val (.int x5), .val (.int z1), .val (.int z2), .val (.int (0 : Int32)), .val (.ref b4), .val (.ref b18), .val (.ref b209), .val (.ref b220), .val (.ref b231), .val (.ref b239), .val (.ref b247), .val (.ref b255), .val (.ref b263), .val (.ref b271), .val (.int ((x0 &&& (2147483647 : Int32)) % (7 : Int32))), .val (.ref b231), .val (.int (0 : Int32)), .val (.int (0 : Int32)), .unset, .unset] [])) _
                      refine own_go (fun t_ k_ => XS.aload X349.here hx rfl (hb hby at_338) rfl rfl k_) ?_
                      show own_Goes p e below (T349.setTop (mkF m 340 #[.val (.int x0), .val (.int x1), .val (.int x2), .val (.int x3), .val (.int x4), .val (.int x5), .val (.int z1), .val (.int z2), .val (.int (0 : Int32)), .val (.ref b4), .val (.ref b18), .val (.ref b209), .val (.ref b220), .val (.ref b231), .val (.ref b239), .val (.ref b247), .val (.ref b255), .val (.ref b263), .val (.ref b271), .val (.int ((x0 &&& (2147483647 : Int32)) % (7 : Int32))), .val (.ref b231), .val (.int (0 : Int32)), .val (.int (0 : Int32)), .unset, .unset] [(.ref b255)])) _
                      refine own_go (fun t_ k_ => XS.aload X349.here hx rfl (hb hby at_340) rfl rfl k_) ?_
                      show own_Goes p e below (T349.setTop (mkF m 342 #[.val (.int x0), .val (.int x1), .val (.int x2), .val (.int x3), .val (.int x4), .val (.int x5), .val (.int z1), .val (.int z2), .val (.int (0 : Int32)), .val (.ref b4), .val (.ref b18), .val (.ref b209), .val (.ref b220), .val (.ref b231), .val (.ref b239), .val (.ref b247), .val (.ref b255), .val (.ref b263), .val (.ref b271), .val (.int ((x0 &&& (2147483647 : Int32)) % (7 : Int32))), .val (.ref b231), .val (.int (0 : Int32)), .val (.int (0 : Int32)), .unset, .unset] [(.ref b247), (.ref b255)])) _
                      have f350 := ((((c260_0.ext E263).keep Kc268 (ninS (own_ne (a := b255) (b := b263) (by omega)) nin0)).ext E271).keep Kc276 (ninS (own_ne (a := b255) (b := b271) (by omega)) nin0))
                      have f351 := ((((((c252_0.ext E255).keep Kc260 (ninS (own_ne (a := b247) (b := b255) (by omega)) nin0)).ext E263).keep Kc268 (ninS (own_ne (a := b247) (b := b263) (by omega)) nin0)).ext E271).keep Kc276 (ninS (own_ne (a := b247) (b := b271) (by omega)) nin0))
                      have f352 := (((((A255.keep Kc260).ext E263).keep Kc268).ext E271).keep Kc276)
                      obtain ⟨cqiv353, kqiv353, qiv353a, qiv353b, qiv353c⟩ := isOf hZ276 e349 f352
                      obtain ⟨_, _, ⟨T354, L354, k354, n354⟩, -, X354, ⟨Lc354, hQ354, l354, y354, z354⟩, st354⟩ := X349.virtualBack hx (y := own_m12) (z := own_m12) hown276 (mvT hZ276 (hw _ (List.mem_of_getElem? (i := 80) rfl))) (mvT hZ276 (hw _ (List.mem_of_getElem? (i := 81) rfl))) (notFace_of_selects (args := #[]) (mvT hZ276 (hw _ (List.mem_of_getElem? (i := 83) rfl)))) (mvT hZ276 (hw _ (List.mem_of_getElem? (i := 83) rfl))) (mvT hZ276 (hw _ (List.mem_of_getElem? (i := 82) rfl))) (by decide) (backOf (W := 0) (own_eqT l Z a0 hw [] b255 b247 b231 h276 n0 O277 f347 f350 f351) hZ276 (hw _ (List.mem_of_getElem? (i := 84) rfl)) (hw _ (List.mem_of_getElem? (i := 51) rfl)) (by decide) (by decide)) qiv353a qiv353c (g := (mkF m 342 #[.val (.int x0), .val (.int x1), .val (.int x2), .val (.int x3), .val (.int x4), .val (.int x5), .val (.int z1), .val (.int z2), .val (.int (0 : Int32)), .val (.ref b4), .val (.ref b18), .val (.ref b209), .val (.ref b220), .val (.ref b231), .val (.ref b239), .val (.ref b247), .val (.ref b255), .val (.ref b263), .val (.ref b271), .val (.int ((x0 &&& (2147483647 : Int32)) % (7 : Int32))), .val (.ref b231), .val (.int (0 : Int32)), .val (.int (0 : Int32)), .unset, .unset] [(.ref b247), (.ref b255)])) rfl (by rw [hml]; rfl) (Steps.refl _) (argsL := [(.ref b247)]) (rest := []) (lenOf own_pd_11 rfl) rfl (by show 2 * 0 + _ ≤ _; exact Nat.le_of_eq rfl) (hb hby at_342) (fun _ _ => ⟨rfl, e349, (by decide : 24 + 0 ≤ _), (by decide : 168 + 0 ≤ _)⟩)
                      dsimp only [Pt.U, Pt.locs, Pt.cells, Pt.slots] at X354 l354 y354 z354 st354 hQ354
                      subst l354 y354 z354
                      obtain ⟨Nc354, e354, rfl⟩ := hQ354
                      have N354 := Fr.app N349 Nc354
                      refine own_goS st354 ?_
                      show own_Goes p e below (T354.setTop (mkF m 345 #[.val (.int x0), .val (.int x1), .val (.int x2), .val (.int x3), .val (.int x4), .val (.int x5), .val (.int z1), .val (.int z2), .val (.int (0 : Int32)), .val (.ref b4), .val (.ref b18), .val (.ref b209), .val (.ref b220), .val (.ref b231), .val (.ref b239), .val (.ref b247), .val (.ref b255), .val (.ref b263), .val (.ref b271), .val (.int ((x0 &&& (2147483647 : Int32)) % (7 : Int32))), .val (.ref b231), .val (.int (0 : Int32)), .val (.int (0 : Int32)), .unset, .unset] [(.int (1 : Int32))])) _
                      refine own_go (fun t_ k_ => XS.istore X354.here hx rfl (hb hby at_345) rfl (l' := #[.val (.int x0), .val (.int x1), .val (.int x2), .val (.int x3), .val (.int x4), .val (.int x5), .val (.int z1), .val (.int z2), .val (.int (0 : Int32)), .val (.ref b4), .val (.ref b18), .val (.ref b209), .val (.ref b220), .val (.ref b231), .val (.ref b239), .val (.ref b247), .val (.ref b255), .val (.ref b263), .val (.ref b271), .val (.int ((x0 &&& (2147483647 : Int32)) % (7 : Int32))), .val (.ref b231), .val (.int (0 : Int32)), .val (.int (0 : Int32)), .val (.int (1 : Int32)), .unset]) rfl k_) ?_
                      show own_Goes p e below (T354.setTop (mkF m 347 #[.val (.int x0), .val (.int x1), .val (.int x2), .val (.int x3), .val (.int x4), .val (.int x5), .val (.int z1), .val (.int z2), .val (.int (0 : Int32)), .val (.ref b4), .val (.ref b18), .val (.ref b209), .val (.ref b220), .val (.ref b231), .val (.ref b239), .val (.ref b247), .val (.ref b255), .val (.ref b263), .val (.ref b271), .val (.int ((x0 &&& (2147483647 : Int32)) % (7 : Int32))), .val (.ref b231), .val (.int (0 : Int32)), .val (.int (0 : Int32)), .val (.int (1 : Int32)), .unset] [])) _
                      refine own_go (fun t_ k_ => XS.aload X354.here hx rfl (hb hby at_347) rfl rfl k_) ?_
                      show own_Goes p e below (T354.setTop (mkF m 349 #[.val (.int x0), .val (.int x1), .val (.int x2), .val (.int x3), .val (.int x4), .val (.int x5), .val (.int z1), .val (.int z2), .val (.int (0 : Int32)), .val (.ref b4), .val (.ref b18), .val (.ref b209), .val (.ref b220), .val (.ref b231), .val (.ref b239), .val (.ref b247), .val (.ref b255), .val (.ref b263), .val (.ref b271), .val (.int ((x0 &&& (2147483647 : Int32)) % (7 : Int32))), .val (.ref b231), .val (.int (0 : Int32)), .val (.int (0 : Int32)), .val (.int (1 : Int32)), .unset] [(.ref b263)])) _
                      refine own_go (fun t_ k_ => XS.aload X354.here hx rfl (hb hby at_349) rfl rfl k_) ?_
                      show own_Goes p e below (T354.setTop (mkF m 351 #[.val (.int x0), .val (.int x1), .val (.int x2), .val (.int x3), .val (.int x4), .val (.int x5), .val (.int z1), .val (.int z2), .val (.int (0 : Int32)), .val (.ref b4), .val (.ref b18), .val (.ref b209), .val (.ref b220), .val (.ref b231), .val (.ref b239), .val (.ref b247), .val (.ref b255), .val (.ref b263), .val (.ref b271), .val (.int ((x0 &&& (2147483647 : Int32)) % (7 : Int32))), .val (.ref b231), .val (.int (0 : Int32)), .val (.int (0 : Int32)), .val (.int (1 : Int32)), .unset] [(.ref b247), (.ref b263)])) _
                      have f355 := ((c268_0.ext E271).keep Kc276 (ninS (own_ne (a := b263) (b := b271) (by omega)) nin0))
                      have f356 := (((A263.keep Kc268).ext E271).keep Kc276)
                      obtain ⟨cqiv357, kqiv357, qiv357a, qiv357b, qiv357c⟩ := isOf hZ276 e354 f356
                      obtain ⟨_, _, ⟨T358, L358, k358, n358⟩, -, X358, ⟨Lc358, hQ358, l358, y358, z358⟩, st358⟩ := X354.virtualBack hx (y := own_m12) (z := own_m12) hown276 (mvT hZ276 (hw _ (List.mem_of_getElem? (i := 80) rfl))) (mvT hZ276 (hw _ (List.mem_of_getElem? (i := 81) rfl))) (notFace_of_selects (args := #[]) (mvT hZ276 (hw _ (List.mem_of_getElem? (i := 83) rfl)))) (mvT hZ276 (hw _ (List.mem_of_getElem? (i := 83) rfl))) (mvT hZ276 (hw _ (List.mem_of_getElem? (i := 82) rfl))) (by decide) (backOf (W := 0) (own_eqF l Z a0 hw [] b263 b247 b239 b231 h276 n0 O277 f347 f355 f351 (show ¬ b231 = b239 from (by omega))) hZ276 (hw _ (List.mem_of_getElem? (i := 84) rfl)) (hw _ (List.mem_of_getElem? (i := 51) rfl)) (by decide) (by decide)) qiv357a qiv357c (g := (mkF m 351 #[.val (.int x0), .val (.int x1), .val (.int x2), .val (.int x3), .val (.int x4), .val (.int x5), .val (.int z1), .val (.int z2), .val (.int (0 : Int32)), .val (.ref b4), .val (.ref b18), .val (.ref b209), .val (.ref b220), .val (.ref b231), .val (.ref b239), .val (.ref b247), .val (.ref b255), .val (.ref b263), .val (.ref b271), .val (.int ((x0 &&& (2147483647 : Int32)) % (7 : Int32))), .val (.ref b231), .val (.int (0 : Int32)), .val (.int (0 : Int32)), .val (.int (1 : Int32)), .unset] [(.ref b247), (.ref b263)])) rfl (by rw [hml]; rfl) (Steps.refl _) (argsL := [(.ref b247)]) (rest := []) (lenOf own_pd_11 rfl) rfl (by show 2 * 0 + _ ≤ _; exact Nat.le_of_eq rfl) (hb hby at_351) (fun _ _ => ⟨rfl, e354, (by decide : 24 + 0 ≤ _), (by decide : 168 + 0 ≤ _)⟩)
                      dsimp only [Pt.U, Pt.locs, Pt.cells, Pt.slots] at X358 l358 y358 z358 st358 hQ358
                      subst l358 y358 z358
                      obtain ⟨Nc358, e358, rfl⟩ := hQ358
                      have N358 := Fr.app N354 Nc358
                      refine own_goS st358 ?_
                      show own_Goes p e below (T358.setTop (mkF m 354 #[.val (.int x0), .val (.int x1), .val (.int x2), .val (.int x3), .val (.int x4), .val (.int x5), .val (.int z1), .val (.int z2), .val (.int (0 : Int32)), .val (.ref b4), .val (.ref b18), .val (.ref b209), .val (.ref b220), .val (.ref b231), .val (.ref b239), .val (.ref b247), .val (.ref b255), .val (.ref b263), .val (.ref b271), .val (.int ((x0 &&& (2147483647 : Int32)) % (7 : Int32))), .val (.ref b231), .val (.int (0 : Int32)), .val (.int (0 : Int32)), .val (.int (1 : Int32)), .unset] [(.int (0 : Int32))])) _
                      refine own_go (fun t_ k_ => XS.istore X358.here hx rfl (hb hby at_354) rfl (l' := #[.val (.int x0), .val (.int x1), .val (.int x2), .val (.int x3), .val (.int x4), .val (.int x5), .val (.int z1), .val (.int z2), .val (.int (0 : Int32)), .val (.ref b4), .val (.ref b18), .val (.ref b209), .val (.ref b220), .val (.ref b231), .val (.ref b239), .val (.ref b247), .val (.ref b255), .val (.ref b263), .val (.ref b271), .val (.int ((x0 &&& (2147483647 : Int32)) % (7 : Int32))), .val (.ref b231), .val (.int (0 : Int32)), .val (.int (0 : Int32)), .val (.int (1 : Int32)), .val (.int (0 : Int32))]) rfl k_) ?_
                      show own_Goes p e below (T358.setTop (mkF m 356 #[.val (.int x0), .val (.int x1), .val (.int x2), .val (.int x3), .val (.int x4), .val (.int x5), .val (.int z1), .val (.int z2), .val (.int (0 : Int32)), .val (.ref b4), .val (.ref b18), .val (.ref b209), .val (.ref b220), .val (.ref b231), .val (.ref b239), .val (.ref b247), .val (.ref b255), .val (.ref b263), .val (.ref b271), .val (.int ((x0 &&& (2147483647 : Int32)) % (7 : Int32))), .val (.ref b231), .val (.int (0 : Int32)), .val (.int (0 : Int32)), .val (.int (1 : Int32)), .val (.int (0 : Int32))] [])) _
                      refine own_go (fun t_ k_ => XS.iload X358.here hx rfl (hb hby at_356) rfl k_) ?_
                      show own_Goes p e below (T358.setTop (mkF m 358 #[.val (.int x0), .val (.int x1), .val (.int x2), .val (.int x3), .val (.int x4), .val (.int x5), .val (.int z1), .val (.int z2), .val (.int (0 : Int32)), .val (.ref b4), .val (.ref b18), .val (.ref b209), .val (.ref b220), .val (.ref b231), .val (.ref b239), .val (.ref b247), .val (.ref b255), .val (.ref b263), .val (.ref b271), .val (.int ((x0 &&& (2147483647 : Int32)) % (7 : Int32))), .val (.ref b231), .val (.int (0 : Int32)), .val (.int (0 : Int32)), .val (.int (1 : Int32)), .val (.int (0 : Int32))] [(.int (0 : Int32))])) _
                      refine own_go (fun t_ k_ => XS.iload X358.here hx rfl (hb hby at_358) rfl k_) ?_
                      show own_Goes p e below (T358.setTop (mkF m 360 #[.val (.int x0), .val (.int x1), .val (.int x2), .val (.int x3), .val (.int x4), .val (.int x5), .val (.int z1), .val (.int z2), .val (.int (0 : Int32)), .val (.ref b4), .val (.ref b18), .val (.ref b209), .val (.ref b220), .val (.ref b231), .val (.ref b239), .val (.ref b247), .val (.ref b255), .val (.ref b263), .val (.ref b271), .val (.int ((x0 &&& (2147483647 : Int32)) % (7 : Int32))), .val (.ref b231), .val (.int (0 : Int32)), .val (.int (0 : Int32)), .val (.int (1 : Int32)), .val (.int (0 : Int32))] [(.int (0 : Int32)), (.int (0 : Int32))])) _
                      refine own_go (fun t_ k_ => XS.icmpNo X358.here hx rfl (hb hby at_360) rfl (teq (show ((0 : Int32) = (0 : Int32)) from by decide)).2 k_) ?_
                      show own_Goes p e below (T358.setTop (mkF m 363 #[.val (.int x0), .val (.int x1), .val (.int x2), .val (.int x3), .val (.int x4), .val (.int x5), .val (.int z1), .val (.int z2), .val (.int (0 : Int32)), .val (.ref b4), .val (.ref b18), .val (.ref b209), .val (.ref b220), .val (.ref b231), .val (.ref b239), .val (.ref b247), .val (.ref b255), .val (.ref b263), .val (.ref b271), .val (.int ((x0 &&& (2147483647 : Int32)) % (7 : Int32))), .val (.ref b231), .val (.int (0 : Int32)), .val (.int (0 : Int32)), .val (.int (1 : Int32)), .val (.int (0 : Int32))] [])) _
                      refine own_go (fun t_ k_ => XS.iload X358.here hx rfl (hb hby at_363) rfl k_) ?_
                      show own_Goes p e below (T358.setTop (mkF m 365 #[.val (.int x0), .val (.int x1), .val (.int x2), .val (.int x3), .val (.int x4), .val (.int x5), .val (.int z1), .val (.int z2), .val (.int (0 : Int32)), .val (.ref b4), .val (.ref b18), .val (.ref b209), .val (.ref b220), .val (.ref b231), .val (.ref b239), .val (.ref b247), .val (.ref b255), .val (.ref b263), .val (.ref b271), .val (.int ((x0 &&& (2147483647 : Int32)) % (7 : Int32))), .val (.ref b231), .val (.int (0 : Int32)), .val (.int (0 : Int32)), .val (.int (1 : Int32)), .val (.int (0 : Int32))] [(.int (1 : Int32))])) _
                      refine own_go (fun t_ k_ => XS.ifNo X358.here hx rfl (hb hby at_365) rfl ((if0 _ _).trans (feq (show ¬ ((1 : Int32) = (0 : Int32)) from by decide)).1) k_) ?_
                      show own_Goes p e below (T358.setTop (mkF m 368 #[.val (.int x0), .val (.int x1), .val (.int x2), .val (.int x3), .val (.int x4), .val (.int x5), .val (.int z1), .val (.int z2), .val (.int (0 : Int32)), .val (.ref b4), .val (.ref b18), .val (.ref b209), .val (.ref b220), .val (.ref b231), .val (.ref b239), .val (.ref b247), .val (.ref b255), .val (.ref b263), .val (.ref b271), .val (.int ((x0 &&& (2147483647 : Int32)) % (7 : Int32))), .val (.ref b231), .val (.int (0 : Int32)), .val (.int (0 : Int32)), .val (.int (1 : Int32)), .val (.int (0 : Int32))] [])) _
                      refine own_go (fun t_ k_ => XS.iload X358.here hx rfl (hb hby at_368) rfl k_) ?_
                      show own_Goes p e below (T358.setTop (mkF m 370 #[.val (.int x0), .val (.int x1), .val (.int x2), .val (.int x3), .val (.int x4), .val (.int x5), .val (.int z1), .val (.int z2), .val (.int (0 : Int32)), .val (.ref b4), .val (.ref b18), .val (.ref b209), .val (.ref b220), .val (.ref b231), .val (.ref b239), .val (.ref b247), .val (.ref b255), .val (.ref b263), .val (.ref b271), .val (.int ((x0 &&& (2147483647 : Int32)) % (7 : Int32))), .val (.ref b231), .val (.int (0 : Int32)), .val (.int (0 : Int32)), .val (.int (1 : Int32)), .val (.int (0 : Int32))] [(.int (0 : Int32))])) _
                      refine own_go (fun t_ k_ => XS.ifNo X358.here hx rfl (hb hby at_370) rfl ((if0 _ _).trans (teq (show ((0 : Int32) = (0 : Int32)) from by decide)).2) k_) ?_
                      show own_Goes p e below (T358.setTop (mkF m 373 #[.val (.int x0), .val (.int x1), .val (.int x2), .val (.int x3), .val (.int x4), .val (.int x5), .val (.int z1), .val (.int z2), .val (.int (0 : Int32)), .val (.ref b4), .val (.ref b18), .val (.ref b209), .val (.ref b220), .val (.ref b231), .val (.ref b239), .val (.ref b247), .val (.ref b255), .val (.ref b263), .val (.ref b271), .val (.int ((x0 &&& (2147483647 : Int32)) % (7 : Int32))), .val (.ref b231), .val (.int (0 : Int32)), .val (.int (0 : Int32)), .val (.int (1 : Int32)), .val (.int (0 : Int32))] [])) _
                      refine own_go (fun t_ k_ => XS.iconst X358.here hx rfl (hb hby at_373) k_) ?_
                      show own_Goes p e below (T358.setTop (mkF m 374 #[.val (.int x0), .val (.int x1), .val (.int x2), .val (.int x3), .val (.int x4), .val (.int x5), .val (.int z1), .val (.int z2), .val (.int (0 : Int32)), .val (.ref b4), .val (.ref b18), .val (.ref b209), .val (.ref b220), .val (.ref b231), .val (.ref b239), .val (.ref b247), .val (.ref b255), .val (.ref b263), .val (.ref b271), .val (.int ((x0 &&& (2147483647 : Int32)) % (7 : Int32))), .val (.ref b231), .val (.int (0 : Int32)), .val (.int (0 : Int32)), .val (.int (1 : Int32)), .val (.int (0 : Int32))] [(.int (1 : Int32))])) _
                      refine own_go (fun t_ k_ => XS.goto X358.here hx rfl (pc0 := 374) (pc' := 378) rfl (hb hby at_374) (by decide) (by decide) k_) ?_
                      show own_Goes p e below (T358.setTop (mkF m 378 #[.val (.int x0), .val (.int x1), .val (.int x2), .val (.int x3), .val (.int x4), .val (.int x5), .val (.int z1), .val (.int z2), .val (.int (0 : Int32)), .val (.ref b4), .val (.ref b18), .val (.ref b209), .val (.ref b220), .val (.ref b231), .val (.ref b239), .val (.ref b247), .val (.ref b255), .val (.ref b263), .val (.ref b271), .val (.int ((x0 &&& (2147483647 : Int32)) % (7 : Int32))), .val (.ref b231), .val (.int (0 : Int32)), .val (.int (0 : Int32)), .val (.int (1 : Int32)), .val (.int (0 : Int32))] [(.int (1 : Int32))])) _
                      refine own_endW X358 hS276 (show _ ≤ T358.heap.size by rw [e358]; exact hk276) (v := (some (.int (1 : Int32)))) (fun h => by rw [hret] at h; cases h) hlk (by decide) (by decide) ?_ (fun fs hr => retOut X358 hx hret rfl (Or.inl ⟨rfl, Or.inr (Or.inl rfl), _, rfl⟩) (hb hby at_378) hr)
                      show Q_rm0 Z x0 x1 x2 x3 x4 x5 gz h0 n0 _ T358.heap _
                      rw [e358]
                      exact ⟨N358, trivial, rfl⟩
                    · refine own_go (fun t_ k_ => XS.icmpYes X276.here hx rfl (pc0 := 309) (pc' := 322) rfl (hb hby at_309) rfl (feq hc345).2 (by decide) (by decide) k_) ?_
                      show own_Goes p e below (T276.setTop (mkF m 322 #[.val (.int x0), .val (.int x1), .val (.int x2), .val (.int x3), .val (.int x4), .val (.int x5), .val (.int z1), .val (.int z2), .val (.int (0 : Int32)), .val (.ref b4), .val (.ref b18), .val (.ref b209), .val (.ref b220), .val (.ref b231), .val (.ref b239), .val (.ref b247), .val (.ref b255), .val (.ref b263), .val (.ref b271), .val (.int ((x0 &&& (2147483647 : Int32)) % (7 : Int32))), .unset, .unset, .unset, .unset, .unset] [])) _
                      refine own_go (fun t_ k_ => XS.aload X276.here hx rfl (hb hby at_322) rfl rfl k_) ?_
                      show own_Goes p e below (T276.setTop (mkF m 324 #[.val (.int x0), .val (.int x1), .val (.int x2), .val (.int x3), .val (.int x4), .val (.int x5), .val (.int z1), .val (.int z2), .val (.int (0 : Int32)), .val (.ref b4), .val (.ref b18), .val (.ref b209), .val (.ref b220), .val (.ref b231), .val (.ref b239), .val (.ref b247), .val (.ref b255), .val (.ref b263), .val (.ref b271), .val (.int ((x0 &&& (2147483647 : Int32)) % (7 : Int32))), .unset, .unset, .unset, .unset, .unset] [(.ref b209)])) _
                      refine own_go (fun t_ k_ => XS.astore X276.here hx rfl (hb hby at_324) rfl rfl (l' := #[.val (.int x0), .val (.int x1), .val (.int x2), .val (.int x3), .val (.int x4), .val (.int x5), .val (.int z1), .val (.int z2), .val (.int (0 : Int32)), .val (.ref b4), .val (.ref b18), .val (.ref b209), .val (.ref b220), .val (.ref b231), .val (.ref b239), .val (.ref b247), .val (.ref b255), .val (.ref b263), .val (.ref b271), .val (.int ((x0 &&& (2147483647 : Int32)) % (7 : Int32))), .val (.ref b209), .unset, .unset, .unset, .unset]) rfl k_) ?_
                      show own_Goes p e below (T276.setTop (mkF m 326 #[.val (.int x0), .val (.int x1), .val (.int x2), .val (.int x3), .val (.int x4), .val (.int x5), .val (.int z1), .val (.int z2), .val (.int (0 : Int32)), .val (.ref b4), .val (.ref b18), .val (.ref b209), .val (.ref b220), .val (.ref b231), .val (.ref b239), .val (.ref b247), .val (.ref b255), .val (.ref b263), .val (.ref b271), .val (.int ((x0 &&& (2147483647 : Int32)) % (7 : Int32))), .val (.ref b209), .unset, .unset, .unset, .unset] [])) _
                      refine own_go (fun t_ k_ => XS.iconst X276.here hx rfl (hb hby at_326) k_) ?_
                      show own_Goes p e below (T276.setTop (mkF m 327 #[.val (.int x0), .val (.int x1), .val (.int x2), .val (.int x3), .val (.int x4), .val (.int x5), .val (.int z1), .val (.int z2), .val (.int (0 : Int32)), .val (.ref b4), .val (.ref b18), .val (.ref b209), .val (.ref b220), .val (.ref b231), .val (.ref b239), .val (.ref b247), .val (.ref b255), .val (.ref b263), .val (.ref b271), .val (.int ((x0 &&& (2147483647 : Int32)) % (7 : Int32))), .val (.ref b209), .unset, .unset, .unset, .unset] [(.int (0 : Int32))])) _
                      refine own_go (fun t_ k_ => XS.istore X276.here hx rfl (hb hby at_327) rfl (l' := #[.val (.int x0), .val (.int x1), .val (.int x2), .val (.int x3), .val (.int x4), .val (.int x5), .val (.int z1), .val (.int z2), .val (.int (0 : Int32)), .val (.ref b4), .val (.ref b18), .val (.ref b209), .val (.ref b220), .val (.ref b231), .val (.ref b239), .val (.ref b247), .val (.ref b255), .val (.ref b263), .val (.ref b271), .val (.int ((x0 &&& (2147483647 : Int32)) % (7 : Int32))), .val (.ref b209), .val (.int (0 : Int32)), .unset, .unset, .unset]) rfl k_) ?_
                      show own_Goes p e below (T276.setTop (mkF m 329 #[.val (.int x0), .val (.int x1), .val (.int x2), .val (.int x3), .val (.int x4), .val (.int x5), .val (.int z1), .val (.int z2), .val (.int (0 : Int32)), .val (.ref b4), .val (.ref b18), .val (.ref b209), .val (.ref b220), .val (.ref b231), .val (.ref b239), .val (.ref b247), .val (.ref b255), .val (.ref b263), .val (.ref b271), .val (.int ((x0 &&& (2147483647 : Int32)) % (7 : Int32))), .val (.ref b209), .val (.int (0 : Int32)), .unset, .unset, .unset] [])) _
                      refine own_go (fun t_ k_ => XS.aload X276.here hx rfl (hb hby at_329) rfl rfl k_) ?_
                      show own_Goes p e below (T276.setTop (mkF m 331 #[.val (.int x0), .val (.int x1), .val (.int x2), .val (.int x3), .val (.int x4), .val (.int x5), .val (.int z1), .val (.int z2), .val (.int (0 : Int32)), .val (.ref b4), .val (.ref b18), .val (.ref b209), .val (.ref b220), .val (.ref b231), .val (.ref b239), .val (.ref b247), .val (.ref b255), .val (.ref b263), .val (.ref b271), .val (.int ((x0 &&& (2147483647 : Int32)) % (7 : Int32))), .val (.ref b209), .val (.int (0 : Int32)), .unset, .unset, .unset] [(.ref b247)])) _
                      refine own_go (fun t_ k_ => XS.aload X276.here hx rfl (hb hby at_331) rfl rfl k_) ?_
                      show own_Goes p e below (T276.setTop (mkF m 333 #[.val (.int x0), .val (.int x1), .val (.int x2), .val (.int x3), .val (.int x4), .val (.int x5), .val (.int z1), .val (.int z2), .val (.int (0 : Int32)), .val (.ref b4), .val (.ref b18), .val (.ref b209), .val (.ref b220), .val (.ref b231), .val (.ref b239), .val (.ref b247), .val (.ref b255), .val (.ref b263), .val (.ref b271), .val (.int ((x0 &&& (2147483647 : Int32)) % (7 : Int32))), .val (.ref b209), .val (.int (0 : Int32)), .unset, .unset, .unset] [(.ref b209), (.ref b247)])) _
                      have f359 := (f275.keep Kc276)
                      have f360 := (((((((A247.keep Kc252).ext E255).keep Kc260).ext E263).keep Kc268).ext E271).keep Kc276)
                      obtain ⟨cqiv361, kqiv361, qiv361a, qiv361b, qiv361c⟩ := isOf hZ276 e276 f360
                      obtain ⟨_, _, ⟨T362, L362, k362, n362⟩, -, X362, ⟨Lc362, hQ362, l362, y362, z362⟩, st362⟩ := X276.virtualBack hx (y := own_m12) (z := own_m12) hown276 (mvT hZ276 (hw _ (List.mem_of_getElem? (i := 80) rfl))) (mvT hZ276 (hw _ (List.mem_of_getElem? (i := 81) rfl))) (notFace_of_selects (args := #[]) (mvT hZ276 (hw _ (List.mem_of_getElem? (i := 83) rfl)))) (mvT hZ276 (hw _ (List.mem_of_getElem? (i := 83) rfl))) (mvT hZ276 (hw _ (List.mem_of_getElem? (i := 82) rfl))) (by decide) (backOf (W := 0) (own_eqO2 l Z a0 hw [] b247 b209 h276 n0 O277 f359) hZ276 (hw _ (List.mem_of_getElem? (i := 84) rfl)) (hw _ (List.mem_of_getElem? (i := 51) rfl)) (by decide) (by decide)) qiv361a qiv361c (g := (mkF m 333 #[.val (.int x0), .val (.int x1), .val (.int x2), .val (.int x3), .val (.int x4), .val (.int x5), .val (.int z1), .val (.int z2), .val (.int (0 : Int32)), .val (.ref b4), .val (.ref b18), .val (.ref b209), .val (.ref b220), .val (.ref b231), .val (.ref b239), .val (.ref b247), .val (.ref b255), .val (.ref b263), .val (.ref b271), .val (.int ((x0 &&& (2147483647 : Int32)) % (7 : Int32))), .val (.ref b209), .val (.int (0 : Int32)), .unset, .unset, .unset] [(.ref b209), (.ref b247)])) rfl (by rw [hml]; rfl) (Steps.refl _) (argsL := [(.ref b209)]) (rest := []) (lenOf own_pd_11 rfl) rfl (by show 2 * 0 + _ ≤ _; exact Nat.le_of_eq rfl) (hb hby at_333) (fun _ _ => ⟨rfl, e276, (by decide : 24 + 0 ≤ _), (by decide : 168 + 0 ≤ _)⟩)
                      dsimp only [Pt.U, Pt.locs, Pt.cells, Pt.slots] at X362 l362 y362 z362 st362 hQ362
                      subst l362 y362 z362
                      obtain ⟨Nc362, e362, rfl⟩ := hQ362
                      have N362 := Fr.app N276 Nc362
                      refine own_goS st362 ?_
                      show own_Goes p e below (T362.setTop (mkF m 336 #[.val (.int x0), .val (.int x1), .val (.int x2), .val (.int x3), .val (.int x4), .val (.int x5), .val (.int z1), .val (.int z2), .val (.int (0 : Int32)), .val (.ref b4), .val (.ref b18), .val (.ref b209), .val (.ref b220), .val (.ref b231), .val (.ref b239), .val (.ref b247), .val (.ref b255), .val (.ref b263), .val (.ref b271), .val (.int ((x0 &&& (2147483647 : Int32)) % (7 : Int32))), .val (.ref b209), .val (.int (0 : Int32)), .unset, .unset, .unset] [(.int (0 : Int32))])) _
                      refine own_go (fun t_ k_ => XS.istore X362.here hx rfl (hb hby at_336) rfl (l' := #[.val (.int x0), .val (.int x1), .val (.int x2), .val (.int x3), .val (.int x4), .val (.int x5), .val (.int z1), .val (.int z2), .val (.int (0 : Int32)), .val (.ref b4), .val (.ref b18), .val (.ref b209), .val (.ref b220), .val (.ref b231), .val (.ref b239), .val (.ref b247), .val (.ref b255), .val (.ref b263), .val (.ref b271), .val (.int ((x0 &&& (2147483647 : Int32)) % (7 : Int32))), .val (.ref b209), .val (.int (0 : Int32)), .val (.int (0 : Int32)), .unset, .unset]) rfl k_) ?_
                      show own_Goes p e below (T362.setTop (mkF m 338 #[.val (.int x0), .val (.int x1), .val (.int x2), .val (.int x3), .val (.int x4), .val (.int x5), .val (.int z1), .val (.int z2), .val (.int (0 : Int32)), .val (.ref b4), .val (.ref b18), .val (.ref b209), .val (.ref b220), .val (.ref b231), .val (.ref b239), .val (.ref b247), .val (.ref b255), .val (.ref b263), .val (.ref b271), .val (.int ((x0 &&& (2147483647 : Int32)) % (7 : Int32))), .val (.ref b209), .val (.int (0 : Int32)), .val (.int (0 : Int32)), .unset, .unset] [])) _
                      refine own_go (fun t_ k_ => XS.aload X362.here hx rfl (hb hby at_338) rfl rfl k_) ?_
                      show own_Goes p e below (T362.setTop (mkF m 340 #[.val (.int x0), .val (.int x1), .val (.int x2), .val (.int x3), .val (.int x4), .val (.int x5), .val (.int z1), .val (.int z2), .val (.int (0 : Int32)), .val (.ref b4), .val (.ref b18), .val (.ref b209), .val (.ref b220), .val (.ref b231), .val (.ref b239), .val (.ref b247), .val (.ref b255), .val (.ref b263), .val (.ref b271), .val (.int ((x0 &&& (2147483647 : Int32)) % (7 : Int32))), .val (.ref b209), .val (.int (0 : Int32)), .val (.int (0 : Int32)), .unset, .unset] [(.ref b255)])) _
                      refine own_go (fun t_ k_ => XS.aload X362.here hx rfl (hb hby at_340) rfl rfl k_) ?_
                      show own_Goes p e below (T362.setTop (mkF m 342 #[.val (.int x0), .val (.int x1), .val (.int x2), .val (.int x3), .val (.int x4), .val (.int x5), .val (.int z1), .val (.int z2), .val (.int (0 : Int32)), .val (.ref b4), .val (.ref b18), .val (.ref b209), .val (.ref b220), .val (.ref b231), .val (.ref b239), .val (.ref b247), .val (.ref b255), .val (.ref b263), .val (.ref b271), .val (.int ((x0 &&& (2147483647 : Int32)) % (7 : Int32))), .val (.ref b209), .val (.int (0 : Int32)), .val (.int (0 : Int32)), .unset, .unset] [(.ref b247), (.ref b255)])) _
                      have f363 := ((((c260_0.ext E263).keep Kc268 (ninS (own_ne (a := b255) (b := b263) (by omega)) nin0)).ext E271).keep Kc276 (ninS (own_ne (a := b255) (b := b271) (by omega)) nin0))
                      have f364 := ((((((c252_0.ext E255).keep Kc260 (ninS (own_ne (a := b247) (b := b255) (by omega)) nin0)).ext E263).keep Kc268 (ninS (own_ne (a := b247) (b := b263) (by omega)) nin0)).ext E271).keep Kc276 (ninS (own_ne (a := b247) (b := b271) (by omega)) nin0))
                      have f365 := (((((A255.keep Kc260).ext E263).keep Kc268).ext E271).keep Kc276)
                      obtain ⟨cqiv366, kqiv366, qiv366a, qiv366b, qiv366c⟩ := isOf hZ276 e362 f365
                      obtain ⟨_, _, ⟨T367, L367, k367, n367⟩, -, X367, ⟨Lc367, hQ367, l367, y367, z367⟩, st367⟩ := X362.virtualBack hx (y := own_m12) (z := own_m12) hown276 (mvT hZ276 (hw _ (List.mem_of_getElem? (i := 80) rfl))) (mvT hZ276 (hw _ (List.mem_of_getElem? (i := 81) rfl))) (notFace_of_selects (args := #[]) (mvT hZ276 (hw _ (List.mem_of_getElem? (i := 83) rfl)))) (mvT hZ276 (hw _ (List.mem_of_getElem? (i := 83) rfl))) (mvT hZ276 (hw _ (List.mem_of_getElem? (i := 82) rfl))) (by decide) (backOf (W := 0) (own_eqT l Z a0 hw [] b255 b247 b231 h276 n0 O277 f360 f363 f364) hZ276 (hw _ (List.mem_of_getElem? (i := 84) rfl)) (hw _ (List.mem_of_getElem? (i := 51) rfl)) (by decide) (by decide)) qiv366a qiv366c (g := (mkF m 342 #[.val (.int x0), .val (.int x1), .val (.int x2), .val (.int x3), .val (.int x4), .val (.int x5), .val (.int z1), .val (.int z2), .val (.int (0 : Int32)), .val (.ref b4), .val (.ref b18), .val (.ref b209), .val (.ref b220), .val (.ref b231), .val (.ref b239), .val (.ref b247), .val (.ref b255), .val (.ref b263), .val (.ref b271), .val (.int ((x0 &&& (2147483647 : Int32)) % (7 : Int32))), .val (.ref b209), .val (.int (0 : Int32)), .val (.int (0 : Int32)), .unset, .unset] [(.ref b247), (.ref b255)])) rfl (by rw [hml]; rfl) (Steps.refl _) (argsL := [(.ref b247)]) (rest := []) (lenOf own_pd_11 rfl) rfl (by show 2 * 0 + _ ≤ _; exact Nat.le_of_eq rfl) (hb hby at_342) (fun _ _ => ⟨rfl, e362, (by decide : 24 + 0 ≤ _), (by decide : 168 + 0 ≤ _)⟩)
                      dsimp only [Pt.U, Pt.locs, Pt.cells, Pt.slots] at X367 l367 y367 z367 st367 hQ367
                      subst l367 y367 z367
                      obtain ⟨Nc367, e367, rfl⟩ := hQ367
                      have N367 := Fr.app N362 Nc367
                      refine own_goS st367 ?_
                      show own_Goes p e below (T367.setTop (mkF m 345 #[.val (.int x0), .val (.int x1), .val (.int x2), .val (.int x3), .val (.int x4), .val (.int x5), .val (.int z1), .val (.int z2), .val (.int (0 : Int32)), .val (.ref b4), .val (.ref b18), .val (.ref b209), .val (.ref b220), .val (.ref b231), .val (.ref b239), .val (.ref b247), .val (.ref b255), .val (.ref b263), .val (.ref b271), .val (.int ((x0 &&& (2147483647 : Int32)) % (7 : Int32))), .val (.ref b209), .val (.int (0 : Int32)), .val (.int (0 : Int32)), .unset, .unset] [(.int (1 : Int32))])) _
                      refine own_go (fun t_ k_ => XS.istore X367.here hx rfl (hb hby at_345) rfl (l' := #[.val (.int x0), .val (.int x1), .val (.int x2), .val (.int x3), .val (.int x4), .val (.int x5), .val (.int z1), .val (.int z2), .val (.int (0 : Int32)), .val (.ref b4), .val (.ref b18), .val (.ref b209), .val (.ref b220), .val (.ref b231), .val (.ref b239), .val (.ref b247), .val (.ref b255), .val (.ref b263), .val (.ref b271), .val (.int ((x0 &&& (2147483647 : Int32)) % (7 : Int32))), .val (.ref b209), .val (.int (0 : Int32)), .val (.int (0 : Int32)), .val (.int (1 : Int32)), .unset]) rfl k_) ?_
                      show own_Goes p e below (T367.setTop (mkF m 347 #[.val (.int x0), .val (.int x1), .val (.int x2), .val (.int x3), .val (.int x4), .val (.int x5), .val (.int z1), .val (.int z2), .val (.int (0 : Int32)), .val (.ref b4), .val (.ref b18), .val (.ref b209), .val (.ref b220), .val (.ref b231), .val (.ref b239), .val (.ref b247), .val (.ref b255), .val (.ref b263), .val (.ref b271), .val (.int ((x0 &&& (2147483647 : Int32)) % (7 : Int32))), .val (.ref b209), .val (.int (0 : Int32)), .val (.int (0 : Int32)), .val (.int (1 : Int32)), .unset] [])) _
                      refine own_go (fun t_ k_ => XS.aload X367.here hx rfl (hb hby at_347) rfl rfl k_) ?_
                      show own_Goes p e below (T367.setTop (mkF m 349 #[.val (.int x0), .val (.int x1), .val (.int x2), .val (.int x3), .val (.int x4), .val (.int x5), .val (.int z1), .val (.int z2), .val (.int (0 : Int32)), .val (.ref b4), .val (.ref b18), .val (.ref b209), .val (.ref b220), .val (.ref b231), .val (.ref b239), .val (.ref b247), .val (.ref b255), .val (.ref b263), .val (.ref b271), .val (.int ((x0 &&& (2147483647 : Int32)) % (7 : Int32))), .val (.ref b209), .val (.int (0 : Int32)), .val (.int (0 : Int32)), .val (.int (1 : Int32)), .unset] [(.ref b263)])) _
                      refine own_go (fun t_ k_ => XS.aload X367.here hx rfl (hb hby at_349) rfl rfl k_) ?_
                      show own_Goes p e below (T367.setTop (mkF m 351 #[.val (.int x0), .val (.int x1), .val (.int x2), .val (.int x3), .val (.int x4), .val (.int x5), .val (.int z1), .val (.int z2), .val (.int (0 : Int32)), .val (.ref b4), .val (.ref b18), .val (.ref b209), .val (.ref b220), .val (.ref b231), .val (.ref b239), .val (.ref b247), .val (.ref b255), .val (.ref b263), .val (.ref b271), .val (.int ((x0 &&& (2147483647 : Int32)) % (7 : Int32))), .val (.ref b209), .val (.int (0 : Int32)), .val (.int (0 : Int32)), .val (.int (1 : Int32)), .unset] [(.ref b247), (.ref b263)])) _
                      have f368 := ((c268_0.ext E271).keep Kc276 (ninS (own_ne (a := b263) (b := b271) (by omega)) nin0))
                      have f369 := (((A263.keep Kc268).ext E271).keep Kc276)
                      obtain ⟨cqiv370, kqiv370, qiv370a, qiv370b, qiv370c⟩ := isOf hZ276 e367 f369
                      obtain ⟨_, _, ⟨T371, L371, k371, n371⟩, -, X371, ⟨Lc371, hQ371, l371, y371, z371⟩, st371⟩ := X367.virtualBack hx (y := own_m12) (z := own_m12) hown276 (mvT hZ276 (hw _ (List.mem_of_getElem? (i := 80) rfl))) (mvT hZ276 (hw _ (List.mem_of_getElem? (i := 81) rfl))) (notFace_of_selects (args := #[]) (mvT hZ276 (hw _ (List.mem_of_getElem? (i := 83) rfl)))) (mvT hZ276 (hw _ (List.mem_of_getElem? (i := 83) rfl))) (mvT hZ276 (hw _ (List.mem_of_getElem? (i := 82) rfl))) (by decide) (backOf (W := 0) (own_eqF l Z a0 hw [] b263 b247 b239 b231 h276 n0 O277 f360 f368 f364 (show ¬ b231 = b239 from (by omega))) hZ276 (hw _ (List.mem_of_getElem? (i := 84) rfl)) (hw _ (List.mem_of_getElem? (i := 51) rfl)) (by decide) (by decide)) qiv370a qiv370c (g := (mkF m 351 #[.val (.int x0), .val (.int x1), .val (.int x2), .val (.int x3), .val (.int x4), .val (.int x5), .val (.int z1), .val (.int z2), .val (.int (0 : Int32)), .val (.ref b4), .val (.ref b18), .val (.ref b209), .val (.ref b220), .val (.ref b231), .val (.ref b239), .val (.ref b247), .val (.ref b255), .val (.ref b263), .val (.ref b271), .val (.int ((x0 &&& (2147483647 : Int32)) % (7 : Int32))), .val (.ref b209), .val (.int (0 : Int32)), .val (.int (0 : Int32)), .val (.int (1 : Int32)), .unset] [(.ref b247), (.ref b263)])) rfl (by rw [hml]; rfl) (Steps.refl _) (argsL := [(.ref b247)]) (rest := []) (lenOf own_pd_11 rfl) rfl (by show 2 * 0 + _ ≤ _; exact Nat.le_of_eq rfl) (hb hby at_351) (fun _ _ => ⟨rfl, e367, (by decide : 24 + 0 ≤ _), (by decide : 168 + 0 ≤ _)⟩)
                      dsimp only [Pt.U, Pt.locs, Pt.cells, Pt.slots] at X371 l371 y371 z371 st371 hQ371
                      subst l371 y371 z371
                      obtain ⟨Nc371, e371, rfl⟩ := hQ371
                      have N371 := Fr.app N367 Nc371
                      refine own_goS st371 ?_
                      show own_Goes p e below (T371.setTop (mkF m 354 #[.val (.int x0), .val (.int x1), .val (.int x2), .val (.int x3), .val (.int x4), .val (.int x5), .val (.int z1), .val (.int z2), .val (.int (0 : Int32)), .val (.ref b4), .val (.ref b18), .val (.ref b209), .val (.ref b220), .val (.ref b231), .val (.ref b239), .val (.ref b247), .val (.ref b255), .val (.ref b263), .val (.ref b271), .val (.int ((x0 &&& (2147483647 : Int32)) % (7 : Int32))), .val (.ref b209), .val (.int (0 : Int32)), .val (.int (0 : Int32)), .val (.int (1 : Int32)), .unset] [(.int (0 : Int32))])) _
                      refine own_go (fun t_ k_ => XS.istore X371.here hx rfl (hb hby at_354) rfl (l' := #[.val (.int x0), .val (.int x1), .val (.int x2), .val (.int x3), .val (.int x4), .val (.int x5), .val (.int z1), .val (.int z2), .val (.int (0 : Int32)), .val (.ref b4), .val (.ref b18), .val (.ref b209), .val (.ref b220), .val (.ref b231), .val (.ref b239), .val (.ref b247), .val (.ref b255), .val (.ref b263), .val (.ref b271), .val (.int ((x0 &&& (2147483647 : Int32)) % (7 : Int32))), .val (.ref b209), .val (.int (0 : Int32)), .val (.int (0 : Int32)), .val (.int (1 : Int32)), .val (.int (0 : Int32))]) rfl k_) ?_
                      show own_Goes p e below (T371.setTop (mkF m 356 #[.val (.int x0), .val (.int x1), .val (.int x2), .val (.int x3), .val (.int x4), .val (.int x5), .val (.int z1), .val (.int z2), .val (.int (0 : Int32)), .val (.ref b4), .val (.ref b18), .val (.ref b209), .val (.ref b220), .val (.ref b231), .val (.ref b239), .val (.ref b247), .val (.ref b255), .val (.ref b263), .val (.ref b271), .val (.int ((x0 &&& (2147483647 : Int32)) % (7 : Int32))), .val (.ref b209), .val (.int (0 : Int32)), .val (.int (0 : Int32)), .val (.int (1 : Int32)), .val (.int (0 : Int32))] [])) _
                      refine own_go (fun t_ k_ => XS.iload X371.here hx rfl (hb hby at_356) rfl k_) ?_
                      show own_Goes p e below (T371.setTop (mkF m 358 #[.val (.int x0), .val (.int x1), .val (.int x2), .val (.int x3), .val (.int x4), .val (.int x5), .val (.int z1), .val (.int z2), .val (.int (0 : Int32)), .val (.ref b4), .val (.ref b18), .val (.ref b209), .val (.ref b220), .val (.ref b231), .val (.ref b239), .val (.ref b247), .val (.ref b255), .val (.ref b263), .val (.ref b271), .val (.int ((x0 &&& (2147483647 : Int32)) % (7 : Int32))), .val (.ref b209), .val (.int (0 : Int32)), .val (.int (0 : Int32)), .val (.int (1 : Int32)), .val (.int (0 : Int32))] [(.int (0 : Int32))])) _
                      refine own_go (fun t_ k_ => XS.iload X371.here hx rfl (hb hby at_358) rfl k_) ?_
                      show own_Goes p e below (T371.setTop (mkF m 360 #[.val (.int x0), .val (.int x1), .val (.int x2), .val (.int x3), .val (.int x4), .val (.int x5), .val (.int z1), .val (.int z2), .val (.int (0 : Int32)), .val (.ref b4), .val (.ref b18), .val (.ref b209), .val (.ref b220), .val (.ref b231), .val (.ref b239), .val (.ref b247), .val (.ref b255), .val (.ref b263), .val (.ref b271), .val (.int ((x0 &&& (2147483647 : Int32)) % (7 : Int32))), .val (.ref b209), .val (.int (0 : Int32)), .val (.int (0 : Int32)), .val (.int (1 : Int32)), .val (.int (0 : Int32))] [(.int (0 : Int32)), (.int (0 : Int32))])) _
                      refine own_go (fun t_ k_ => XS.icmpNo X371.here hx rfl (hb hby at_360) rfl (teq (show ((0 : Int32) = (0 : Int32)) from by decide)).2 k_) ?_
                      show own_Goes p e below (T371.setTop (mkF m 363 #[.val (.int x0), .val (.int x1), .val (.int x2), .val (.int x3), .val (.int x4), .val (.int x5), .val (.int z1), .val (.int z2), .val (.int (0 : Int32)), .val (.ref b4), .val (.ref b18), .val (.ref b209), .val (.ref b220), .val (.ref b231), .val (.ref b239), .val (.ref b247), .val (.ref b255), .val (.ref b263), .val (.ref b271), .val (.int ((x0 &&& (2147483647 : Int32)) % (7 : Int32))), .val (.ref b209), .val (.int (0 : Int32)), .val (.int (0 : Int32)), .val (.int (1 : Int32)), .val (.int (0 : Int32))] [])) _
                      refine own_go (fun t_ k_ => XS.iload X371.here hx rfl (hb hby at_363) rfl k_) ?_
                      show own_Goes p e below (T371.setTop (mkF m 365 #[.val (.int x0), .val (.int x1), .val (.int x2), .val (.int x3), .val (.int x4), .val (.int x5), .val (.int z1), .val (.int z2), .val (.int (0 : Int32)), .val (.ref b4), .val (.ref b18), .val (.ref b209), .val (.ref b220), .val (.ref b231), .val (.ref b239), .val (.ref b247), .val (.ref b255), .val (.ref b263), .val (.ref b271), .val (.int ((x0 &&& (2147483647 : Int32)) % (7 : Int32))), .val (.ref b209), .val (.int (0 : Int32)), .val (.int (0 : Int32)), .val (.int (1 : Int32)), .val (.int (0 : Int32))] [(.int (1 : Int32))])) _
                      refine own_go (fun t_ k_ => XS.ifNo X371.here hx rfl (hb hby at_365) rfl ((if0 _ _).trans (feq (show ¬ ((1 : Int32) = (0 : Int32)) from by decide)).1) k_) ?_
                      show own_Goes p e below (T371.setTop (mkF m 368 #[.val (.int x0), .val (.int x1), .val (.int x2), .val (.int x3), .val (.int x4), .val (.int x5), .val (.int z1), .val (.int z2), .val (.int (0 : Int32)), .val (.ref b4), .val (.ref b18), .val (.ref b209), .val (.ref b220), .val (.ref b231), .val (.ref b239), .val (.ref b247), .val (.ref b255), .val (.ref b263), .val (.ref b271), .val (.int ((x0 &&& (2147483647 : Int32)) % (7 : Int32))), .val (.ref b209), .val (.int (0 : Int32)), .val (.int (0 : Int32)), .val (.int (1 : Int32)), .val (.int (0 : Int32))] [])) _
                      refine own_go (fun t_ k_ => XS.iload X371.here hx rfl (hb hby at_368) rfl k_) ?_
                      show own_Goes p e below (T371.setTop (mkF m 370 #[.val (.int x0), .val (.int x1), .val (.int x2), .val (.int x3), .val (.int x4), .val (.int x5), .val (.int z1), .val (.int z2), .val (.int (0 : Int32)), .val (.ref b4), .val (.ref b18), .val (.ref b209), .val (.ref b220), .val (.ref b231), .val (.ref b239), .val (.ref b247), .val (.ref b255), .val (.ref b263), .val (.ref b271), .val (.int ((x0 &&& (2147483647 : Int32)) % (7 : Int32))), .val (.ref b209), .val (.int (0 : Int32)), .val (.int (0 : Int32)), .val (.int (1 : Int32)), .val (.int (0 : Int32))] [(.int (0 : Int32))])) _
                      refine own_go (fun t_ k_ => XS.ifNo X371.here hx rfl (hb hby at_370) rfl ((if0 _ _).trans (teq (show ((0 : Int32) = (0 : Int32)) from by decide)).2) k_) ?_
                      show own_Goes p e below (T371.setTop (mkF m 373 #[.val (.int x0), .val (.int x1), .val (.int x2), .val (.int x3), .val (.int x4), .val (.int x5), .val (.int z1), .val (.int z2), .val (.int (0 : Int32)), .val (.ref b4), .val (.ref b18), .val (.ref b209), .val (.ref b220), .val (.ref b231), .val (.ref b239), .val (.ref b247), .val (.ref b255), .val (.ref b263), .val (.ref b271), .val (.int ((x0 &&& (2147483647 : Int32)) % (7 : Int32))), .val (.ref b209), .val (.int (0 : Int32)), .val (.int (0 : Int32)), .val (.int (1 : Int32)), .val (.int (0 : Int32))] [])) _
                      refine own_go (fun t_ k_ => XS.iconst X371.here hx rfl (hb hby at_373) k_) ?_
                      show own_Goes p e below (T371.setTop (mkF m 374 #[.val (.int x0), .val (.int x1), .val (.int x2), .val (.int x3), .val (.int x4), .val (.int x5), .val (.int z1), .val (.int z2), .val (.int (0 : Int32)), .val (.ref b4), .val (.ref b18), .val (.ref b209), .val (.ref b220), .val (.ref b231), .val (.ref b239), .val (.ref b247), .val (.ref b255), .val (.ref b263), .val (.ref b271), .val (.int ((x0 &&& (2147483647 : Int32)) % (7 : Int32))), .val (.ref b209), .val (.int (0 : Int32)), .val (.int (0 : Int32)), .val (.int (1 : Int32)), .val (.int (0 : Int32))] [(.int (1 : Int32))])) _
                      refine own_go (fun t_ k_ => XS.goto X371.here hx rfl (pc0 := 374) (pc' := 378) rfl (hb hby at_374) (by decide) (by decide) k_) ?_
                      show own_Goes p e below (T371.setTop (mkF m 378 #[.val (.int x0), .val (.int x1), .val (.int x2), .val (.int x3), .val (.int x4), .val (.int x5), .val (.int z1), .val (.int z2), .val (.int (0 : Int32)), .val (.ref b4), .val (.ref b18), .val (.ref b209), .val (.ref b220), .val (.ref b231), .val (.ref b239), .val (.ref b247), .val (.ref b255), .val (.ref b263), .val (.ref b271), .val (.int ((x0 &&& (2147483647 : Int32)) % (7 : Int32))), .val (.ref b209), .val (.int (0 : Int32)), .val (.int (0 : Int32)), .val (.int (1 : Int32)), .val (.int (0 : Int32))] [(.int (1 : Int32))])) _
                      refine own_endW X371 hS276 (show _ ≤ T371.heap.size by rw [e371]; exact hk276) (v := (some (.int (1 : Int32)))) (fun h => by rw [hret] at h; cases h) hlk (by decide) (by decide) ?_ (fun fs hr => retOut X371 hx hret rfl (Or.inl ⟨rfl, Or.inr (Or.inl rfl), _, rfl⟩) (hb hby at_378) hr)
                      show Q_rm0 Z x0 x1 x2 x3 x4 x5 gz h0 n0 _ T371.heap _
                      rw [e371]
                      exact ⟨N371, trivial, rfl⟩
      by_cases hc372 : (x5 &&& (4 : Int32)) = (0 : Int32)
      · refine own_go (fun t_ k_ => XS.ifYes X0.here hx rfl (pc0 := 32) (pc' := 39) rfl (hb hby at_32) rfl ((if0 _ _).trans (teq hc372).1) (by decide) (by decide) k_) ?_
        show own_Goes p e below (s₁.setTop (mkF m 39 #[.val (.int x0), .val (.int x1), .val (.int x2), .val (.int x3), .val (.int x4), .val (.int x5), .val (.int z1), .val (.int z2), .unset, .unset, .unset, .unset, .unset, .unset, .unset, .unset, .unset, .unset, .unset, .unset, .unset, .unset, .unset, .unset, .unset] [])) _
        refine own_go (fun t_ k_ => XS.iconst X0.here hx rfl (hb hby at_39) k_) ?_
        show own_Goes p e below (s₁.setTop (mkF m 40 #[.val (.int x0), .val (.int x1), .val (.int x2), .val (.int x3), .val (.int x4), .val (.int x5), .val (.int z1), .val (.int z2), .unset, .unset, .unset, .unset, .unset, .unset, .unset, .unset, .unset, .unset, .unset, .unset, .unset, .unset, .unset, .unset, .unset] [(.int (0 : Int32))])) _
        exact Jz3 (0 : Int32) (Or.inr ⟨rfl, hc372⟩)
      · refine own_go (fun t_ k_ => XS.ifNo X0.here hx rfl (hb hby at_32) rfl ((if0 _ _).trans (feq hc372).1) k_) ?_
        show own_Goes p e below (s₁.setTop (mkF m 35 #[.val (.int x0), .val (.int x1), .val (.int x2), .val (.int x3), .val (.int x4), .val (.int x5), .val (.int z1), .val (.int z2), .unset, .unset, .unset, .unset, .unset, .unset, .unset, .unset, .unset, .unset, .unset, .unset, .unset, .unset, .unset, .unset, .unset] [])) _
        refine own_go (fun t_ k_ => XS.iconst X0.here hx rfl (hb hby at_35) k_) ?_
        show own_Goes p e below (s₁.setTop (mkF m 36 #[.val (.int x0), .val (.int x1), .val (.int x2), .val (.int x3), .val (.int x4), .val (.int x5), .val (.int z1), .val (.int z2), .unset, .unset, .unset, .unset, .unset, .unset, .unset, .unset, .unset, .unset, .unset, .unset, .unset, .unset, .unset, .unset, .unset] [(.int (1 : Int32))])) _
        refine own_go (fun t_ k_ => XS.goto X0.here hx rfl (pc0 := 36) (pc' := 40) rfl (hb hby at_36) (by decide) (by decide) k_) ?_
        show own_Goes p e below (s₁.setTop (mkF m 40 #[.val (.int x0), .val (.int x1), .val (.int x2), .val (.int x3), .val (.int x4), .val (.int x5), .val (.int z1), .val (.int z2), .unset, .unset, .unset, .unset, .unset, .unset, .unset, .unset, .unset, .unset, .unset, .unset, .unset, .unset, .unset, .unset, .unset] [(.int (1 : Int32))])) _
        exact Jz3 (1 : Int32) (Or.inl ⟨rfl, hc372⟩)
    by_cases hc373 : (x5 &&& (2 : Int32)) = (0 : Int32)
    · refine own_go (fun t_ k_ => XS.ifYes X0.here hx rfl (pc0 := 18) (pc' := 25) rfl (hb hby at_18) rfl ((if0 _ _).trans (teq hc373).1) (by decide) (by decide) k_) ?_
      show own_Goes p e below (s₁.setTop (mkF m 25 #[.val (.int x0), .val (.int x1), .val (.int x2), .val (.int x3), .val (.int x4), .val (.int x5), .val (.int z1), .unset, .unset, .unset, .unset, .unset, .unset, .unset, .unset, .unset, .unset, .unset, .unset, .unset, .unset, .unset, .unset, .unset, .unset] [])) _
      refine own_go (fun t_ k_ => XS.iconst X0.here hx rfl (hb hby at_25) k_) ?_
      show own_Goes p e below (s₁.setTop (mkF m 26 #[.val (.int x0), .val (.int x1), .val (.int x2), .val (.int x3), .val (.int x4), .val (.int x5), .val (.int z1), .unset, .unset, .unset, .unset, .unset, .unset, .unset, .unset, .unset, .unset, .unset, .unset, .unset, .unset, .unset, .unset, .unset, .unset] [(.int (0 : Int32))])) _
      exact Jz2 (0 : Int32) (Or.inr ⟨rfl, hc373⟩)
    · refine own_go (fun t_ k_ => XS.ifNo X0.here hx rfl (hb hby at_18) rfl ((if0 _ _).trans (feq hc373).1) k_) ?_
      show own_Goes p e below (s₁.setTop (mkF m 21 #[.val (.int x0), .val (.int x1), .val (.int x2), .val (.int x3), .val (.int x4), .val (.int x5), .val (.int z1), .unset, .unset, .unset, .unset, .unset, .unset, .unset, .unset, .unset, .unset, .unset, .unset, .unset, .unset, .unset, .unset, .unset, .unset] [])) _
      refine own_go (fun t_ k_ => XS.iconst X0.here hx rfl (hb hby at_21) k_) ?_
      show own_Goes p e below (s₁.setTop (mkF m 22 #[.val (.int x0), .val (.int x1), .val (.int x2), .val (.int x3), .val (.int x4), .val (.int x5), .val (.int z1), .unset, .unset, .unset, .unset, .unset, .unset, .unset, .unset, .unset, .unset, .unset, .unset, .unset, .unset, .unset, .unset, .unset, .unset] [(.int (1 : Int32))])) _
      refine own_go (fun t_ k_ => XS.goto X0.here hx rfl (pc0 := 22) (pc' := 26) rfl (hb hby at_22) (by decide) (by decide) k_) ?_
      show own_Goes p e below (s₁.setTop (mkF m 26 #[.val (.int x0), .val (.int x1), .val (.int x2), .val (.int x3), .val (.int x4), .val (.int x5), .val (.int z1), .unset, .unset, .unset, .unset, .unset, .unset, .unset, .unset, .unset, .unset, .unset, .unset, .unset, .unset, .unset, .unset, .unset, .unset] [(.int (1 : Int32))])) _
      exact Jz2 (1 : Int32) (Or.inl ⟨rfl, hc373⟩)
  by_cases hc374 : (x5 &&& (1 : Int32)) = (0 : Int32)
  · refine own_go (fun t_ k_ => XS.ifYes X0.here hx rfl (pc0 := 4) (pc' := 11) rfl (hb hby at_4) rfl ((if0 _ _).trans (teq hc374).1) (by decide) (by decide) k_) ?_
    show own_Goes p e below (s₁.setTop (mkF m 11 #[.val (.int x0), .val (.int x1), .val (.int x2), .val (.int x3), .val (.int x4), .val (.int x5), .unset, .unset, .unset, .unset, .unset, .unset, .unset, .unset, .unset, .unset, .unset, .unset, .unset, .unset, .unset, .unset, .unset, .unset, .unset] [])) _
    refine own_go (fun t_ k_ => XS.iconst X0.here hx rfl (hb hby at_11) k_) ?_
    show own_Goes p e below (s₁.setTop (mkF m 12 #[.val (.int x0), .val (.int x1), .val (.int x2), .val (.int x3), .val (.int x4), .val (.int x5), .unset, .unset, .unset, .unset, .unset, .unset, .unset, .unset, .unset, .unset, .unset, .unset, .unset, .unset, .unset, .unset, .unset, .unset, .unset] [(.int (0 : Int32))])) _
    exact Jz1 (0 : Int32) (Or.inr ⟨rfl, hc374⟩)
  · refine own_go (fun t_ k_ => XS.ifNo X0.here hx rfl (hb hby at_4) rfl ((if0 _ _).trans (feq hc374).1) k_) ?_
    show own_Goes p e below (s₁.setTop (mkF m 7 #[.val (.int x0), .val (.int x1), .val (.int x2), .val (.int x3), .val (.int x4), .val (.int x5), .unset, .unset, .unset, .unset, .unset, .unset, .unset, .unset, .unset, .unset, .unset, .unset, .unset, .unset, .unset, .unset, .unset, .unset, .unset] [])) _
    refine own_go (fun t_ k_ => XS.iconst X0.here hx rfl (hb hby at_7) k_) ?_
    show own_Goes p e below (s₁.setTop (mkF m 8 #[.val (.int x0), .val (.int x1), .val (.int x2), .val (.int x3), .val (.int x4), .val (.int x5), .unset, .unset, .unset, .unset, .unset, .unset, .unset, .unset, .unset, .unset, .unset, .unset, .unset, .unset, .unset, .unset, .unset, .unset, .unset] [(.int (1 : Int32))])) _
    refine own_go (fun t_ k_ => XS.goto X0.here hx rfl (pc0 := 8) (pc' := 12) rfl (hb hby at_8) (by decide) (by decide) k_) ?_
    show own_Goes p e below (s₁.setTop (mkF m 12 #[.val (.int x0), .val (.int x1), .val (.int x2), .val (.int x3), .val (.int x4), .val (.int x5), .unset, .unset, .unset, .unset, .unset, .unset, .unset, .unset, .unset, .unset, .unset, .unset, .unset, .unset, .unset, .unset, .unset, .unset, .unset] [(.int (1 : Int32))])) _
    exact Jz1 (1 : Int32) (Or.inl ⟨rfl, hc374⟩)
set_option maxRecDepth 65536 in
set_option maxHeartbeats 40000000 in
theorem comes_1 {Post : Tables → Env → Array Value → State → Outcome → State → Prop} (hpost : ∀ tb e args s v u, (limb_1_1.after args s (.returned v) u = true ∧ limb_1_2.after args s (.returned v) u = true ∧ True) → ReturnedEndW s (.returned v) u (Jvm.fieldLocs frame_1_writes args s ++ Jvm.arrayLocs frame_1_arrays args s ++ Jvm.staticLocs frame_1_statics s) 40 3200 → Post tb e args s (.returned v) u) :
    ArmFor flags0 classFile x code maxLocals ret World_1 tables_1 room_1 Calls_1 rest_1 Pre_1 Post := by
  intro l hfl _ _ p e ha hc hk s m args below hf hA hF happ hP
  obtain ⟨hcalls, hrest, hpre⟩ := hP
  obtain ⟨-, -, -, hnamed, -, -, -, hat⟩ := (Spec.applies_iff hf).mp happ
  obtain ⟨hg, hn⟩ := and_e (Cond.before_iff.mp (show (Jvm.Cond.and given_1 narrow_1).before args s = true from hpre))
  obtain ⟨hg_1, hg_2⟩ := and_e hg
  obtain ⟨hg_3, hg_4⟩ := and_e hg_2
  obtain ⟨hg_5, hg_6⟩ := and_e hg_4
  obtain ⟨hg_7, hg_8⟩ := and_e hg_6
  obtain ⟨hg_9, hg_10⟩ := and_e hg_8
  obtain ⟨hg_11, hg_12⟩ := and_e hg_10
  obtain ⟨w0, w1, w2, w3, w4, w5, rfl⟩ : ∃ w0 w1 w2 w3 w4 w5 : Value, args = #[w0, w1, w2, w3, w4, w5] := by
    have hs : args.size = 6 := by simpa [Cond.value, given_1] using hg_1
    obtain ⟨L⟩ := args
    match L, hs with
    | [w0, w1, w2, w3, w4, w5], _ => exact ⟨w0, w1, w2, w3, w4, w5, rfl⟩
  have hw := fun d (hd : d ∈ tables_1) => atoms_spec (ws := Jvm.Cond.code x code maxLocals ret :: tables_1) hat d (List.mem_cons_of_mem _ hd)
  have hfit : Fit s := fun {y c} hc i hi => by
    obtain ⟨ha, rfl⟩ := Array.getElem?_eq_some_iff.mp hc
    have q := List.all_eq_true.mp ((Array.all_eq_true_iff_forall_mem.mp hF) _ (Array.getElem_mem ha)) i (List.mem_range.mpr hi)
    simpa [Array.getElem?_eq_getElem hi] using q
  obtain ⟨hsets, hown0⟩ := atoms_of _ (rest_1_c_eq ▸ (show rest_1_c.before _ s = true from hrest))
  have hr0 := Cond.before_iff.mp hown0
  obtain ⟨i0, ei0⟩ := is_v hg_3
  obtain rfl : w0 = (.int i0) := Option.some.inj ei0
  obtain ⟨i1, ei1⟩ := is_v hg_5
  obtain rfl : w1 = (.int i1) := Option.some.inj ei1
  obtain ⟨i2, ei2⟩ := is_v hg_7
  obtain rfl : w2 = (.int i2) := Option.some.inj ei2
  obtain ⟨i3, ei3⟩ := is_v hg_9
  obtain rfl : w3 = (.int i3) := Option.some.inj ei3
  obtain ⟨i4, ei4⟩ := is_v hg_11
  obtain rfl : w4 = (.int i4) := Option.some.inj ei4
  obtain ⟨i5, ei5⟩ := is_v hg_12
  obtain rfl : w5 = (.int i5) := Option.some.inj ei5
  obtain ⟨gz, ez⟩ := is_v (Cond.before_iff.mp (hsets _ (List.mem_of_getElem? (i := 1) rfl)))
  have sz_ := Sta.start ez (Or.inl (hsets _ (List.mem_of_getElem? (i := 0) rfl)))
  have nz_ : ¬ gz = (0 : Int32) := gotF (Cond.eq_ints ez (Term.int_eval _)) (not_v (Cond.before_iff.mp (hsets _ (List.mem_of_getElem? (i := 2) rfl))))
  obtain ⟨n, o, h1, h2, h3, _, L, rfl, ⟨N, -, rfl⟩, hq⟩ := rm0 l s _ hw tables_1 i0 i1 i2 i3 i4 i5 s.heap s.heap.size (Old.start s) gz ⟨sz_, nz_⟩ p e ha hc hk s m _ below hf ((Spec.applies_iff_loose hf).mp happ).1 ⟨rfl, State.Warmed39.refl s, rfl⟩ trivial
  refine ⟨n, _, h1, h2, h3, hpost _ _ _ _ _ _ ⟨Cond.after_iff.mpr rfl, Cond.after_iff.mpr (eq_i res_at (Term.int_eval (1)) rfl), trivial⟩ ⟨hq.1, hq.2.1, hq.2.2.1, (hq.2.2.2.sift fun y hy => Or.inr (N y hy)).mono (by decide) (by decide)⟩⟩
theorem main_1_1 : Claimed_1_1 := comes_1 fun _ _ _ _ _ _ h hF => ⟨h.1, hF⟩
theorem main_1_2 : Claimed_1_2 := comes_1 fun _ _ _ _ _ _ h hF => ⟨h.2.1, hF⟩
end Jvm.Pilot.@@N@@
namespace Jvm.Pilot.@@N@@
open Jvm Jvm.ClassFile Sem Op Lib Jvm.Free Jvm.Stand Jvm.Pilot.@@N@@.Jvm.D
/-! MADE BY PROGRAM (witnessworld.py) out of the Statement's table words and the real class files: 24 classes; the members and pool entries that the words name. The judged class is class 1, her method 1. -/
namespace start1
open Jvm.ClassFile
def u (s : String) : CpInfo := .utf8 (stringToUtf16 s)
/-- a pool by its gaps: so many unusable entries, then the entry; so many at the end -/
def gap : Nat → List CpInfo → List CpInfo
  | 0, r => r
  | n + 1, r => .unusable :: gap n r
def poolList (es : List (Nat × CpInfo)) (last : Nat) : List CpInfo := es.foldr (fun e r => gap e.1 (e.2 :: r)) (gap last [])
def pool (es : List (Nat × CpInfo)) (last : Nat) : Array CpInfo := ⟨poolList es last⟩
def fileOf (pool : Array CpInfo) (this : Nat) (attrs : Array Attribute := #[]) (ms : Array MethodInfo := #[]) (fl : Nat := 33) (sup : Nat := 0) (ifs : Array Nat := #[]) (fds : Array FieldInfo := #[]) : ClassFile where
  minorVersion := 0
  majorVersion := 65
  constantPool := pool
  accessFlags := fl
  thisClass := this
  superClass := sup
  interfaces := ifs
  fields := fds
  methods := ms
  attributes := attrs
def plain (name : String) (sup : Option ClassId) : Class where
  name := name
  kind := .ordinary
  loader := none
  accessFlags := 33
  super := sup
  interfaces := #[]
  cf := none
  fields := #[]
  methods := #[]
  instanceTypes := #[]
  staticTypes := #[]
  resolved := #[]
  callSites := []
  init := .initialized
  statics := none
  mirror := none

def pool0 : Array CpInfo := pool [(5, u "<init>"), (0, u "()V"), (1, .class_ 10), (1, u "java/lang/Object")] 113

def k0c0 : Code := { maxStack := 0, maxLocals := 1, code := object_method_1_code, exceptionTable := #[], attributes := #[] }
def k0m0 : Method := { name := "<init>", desc := "()V", sig := { parameters := [], returnType := none }, accessFlags := 1, code := some k0c0 }
/-- java/lang/Object -/
def k0 : Class := { plain "java/lang/Object" none with
  accessFlags := 33
  interfaces := #[]
  cf := some (fileOf pool0 8 #[] #[{ accessFlags := 1, nameIndex := 5, descriptorIndex := 6, attributes := #[] }] 33 0 #[] #[])
  fields := #[]
  methods := #[k0m0]
  instanceTypes := #[]
  staticTypes := #[]
  resolved := Array.replicate 124 none
  statics := none }

def pool1 : Array CpInfo := pool [(2, .class_ 4), (1, u "java/lang/Object"), (0, u "<init>"), (0, u "()V"), (0, .class_ 8), (0, u "java/lang/String"), (0, .methodref 7 10), (0, .nameAndType 5 11), (0, u "([C)V"), (0, .class_ 13), (0, u "com/example/breach_or_proof/breachorproof/NameSymbol"), (0, .methodref 12 15), (0, .nameAndType 5 16), (0, u "(Ljava/lang/String;Z)V"), (0, .class_ 18), (0, u "com/example/breach_or_proof/breachorproof/Name"), (0, .methodref 17 20), (0, .nameAndType 5 21), (0, u "(Lcom/example/breach_or_proof/breachorproof/NameSymbol;)V"), (0, .class_ 23), (0, u "com/example/breach_or_proof/breachorproof/Variable"), (0, .methodref 22 25), (0, .nameAndType 5 26), (0, u "(Ljava/lang/String;)V"), (0, .integer 2147483647), (0, .methodref 17 29), (0, .nameAndType 30 31), (0, u "equals"), (0, u "(Ljava/lang/Object;)Z"), (0, .class_ 33), (0, u "com/example/breach_or_proof/breachorproof/NameEqualsPinLaw"), (2, u "law"), (0, u "(IIIIII)Z")] 5

def k1m0 : Method := { name := "<init>", desc := "()V", sig := { parameters := [], returnType := none }, accessFlags := 1, code := none }
def k1c1 : Code := { maxStack := 4, maxLocals := 25, code := code, exceptionTable := #[], attributes := #[] }
def k1m1 : Method := { name := "law", desc := "(IIIIII)Z", sig := { parameters := [.int, .int, .int, .int, .int, .int], returnType := some .boolean }, accessFlags := 9, code := some k1c1 }
/-- com/example/breach_or_proof/breachorproof/NameEqualsPinLaw -/
def k1 : Class := { plain "com/example/breach_or_proof/breachorproof/NameEqualsPinLaw" (some 0) with
  accessFlags := 49
  interfaces := #[]
  cf := some (fileOf pool1 32 #[] #[{ accessFlags := 1, nameIndex := 5, descriptorIndex := 6, attributes := #[] }, { accessFlags := 9, nameIndex := 36, descriptorIndex := 37, attributes := #[] }] 49 2 #[] #[])
  fields := #[]
  methods := #[k1m0, k1m1]
  instanceTypes := #[]
  staticTypes := #[]
  resolved := Array.replicate 43 none
  statics := none }

def pool2 : Array CpInfo := pool [(1, .class_ 2), (0, u "java/io/Serializable"), (0, .class_ 4), (0, u "java/lang/Object")] 2

/-- java/io/Serializable -/
def k2 : Class := { plain "java/io/Serializable" (some 0) with
  accessFlags := 1537
  interfaces := #[]
  cf := some (fileOf pool2 1 #[] #[] 1537 3 #[] #[])
  fields := #[]
  methods := #[]
  instanceTypes := #[]
  staticTypes := #[]
  resolved := Array.replicate 7 none
  statics := none }

def pool3 : Array CpInfo := pool [(1, .class_ 2), (0, u "java/lang/Comparable"), (0, .class_ 4), (0, u "java/lang/Object")] 7

/-- java/lang/Comparable -/
def k3 : Class := { plain "java/lang/Comparable" (some 0) with
  accessFlags := 1537
  interfaces := #[]
  cf := some (fileOf pool3 1 #[] #[] 1537 3 #[] #[])
  fields := #[]
  methods := #[]
  instanceTypes := #[]
  staticTypes := #[]
  resolved := Array.replicate 12 none
  statics := none }

def pool4 : Array CpInfo := pool [(2, .class_ 4), (1, u "java/lang/CharSequence"), (42, .class_ 48), (0, u "java/lang/CharSequence$1CodePointIterator"), (10, .class_ 60), (0, u "java/lang/CharSequence$1CharIterator"), (5, .class_ 67), (0, u "java/lang/Object")] 63

/-- java/lang/CharSequence -/
def k4 : Class := { plain "java/lang/CharSequence" (some 0) with
  accessFlags := 1537
  interfaces := #[]
  cf := some (fileOf pool4 2 #[.nestMembers #[47, 59]] #[] 1537 66 #[] #[])
  fields := #[]
  methods := #[]
  instanceTypes := #[]
  staticTypes := #[]
  resolved := Array.replicate 131 none
  statics := none }

def pool5 : Array CpInfo := pool [(1, .class_ 2), (0, u "java/lang/constant/Constable"), (0, .class_ 4), (0, u "java/lang/Object")] 6

/-- java/lang/constant/Constable -/
def k5 : Class := { plain "java/lang/constant/Constable" (some 0) with
  accessFlags := 1537
  interfaces := #[]
  cf := some (fileOf pool5 1 #[] #[] 1537 3 #[] #[])
  fields := #[]
  methods := #[]
  instanceTypes := #[]
  staticTypes := #[]
  resolved := Array.replicate 11 none
  statics := none }

def pool6 : Array CpInfo := pool [(1, .class_ 2), (0, u "java/lang/constant/ConstantDesc"), (0, .class_ 4), (0, u "java/lang/Object")] 32

/-- java/lang/constant/ConstantDesc -/
def k6 : Class := { plain "java/lang/constant/ConstantDesc" (some 0) with
  accessFlags := 1537
  interfaces := #[]
  cf := some (fileOf pool6 1 #[] #[] 1537 3 #[] #[])
  fields := #[]
  methods := #[]
  instanceTypes := #[]
  staticTypes := #[]
  resolved := Array.replicate 37 none
  statics := none }

def pool7 : Array CpInfo := pool [(1, .methodref 2 3), (0, .class_ 4), (0, .nameAndType 5 6), (0, u "java/lang/Object"), (0, u "<init>"), (0, u "()V"), (2, .fieldref 10 11), (0, .class_ 12), (0, .nameAndType 13 14), (0, u "java/lang/String"), (0, u "value"), (0, u "[B"), (0, .fieldref 10 16), (0, .nameAndType 17 18), (0, u "coder"), (0, u "B"), (2, u "hash"), (0, u "I"), (2, u "hashIsZero"), (0, u "Z"), (0, .methodref 10 28), (0, .nameAndType 5 29), (0, u "([CIILjava/lang/Void;)V"), (8, .fieldref 10 39), (0, .nameAndType 40 26), (0, u "COMPACT_STRINGS"), (1, .class_ 44), (1, u "java/lang/StringUTF16"), (0, u "compress"), (1, .methodref 42 48), (0, .nameAndType 49 50), (0, u "coderFromArrayLen"), (0, u "([BI)B"), (126, .methodref 42 178), (0, .nameAndType 45 179), (0, u "([CII)[B"), (395, .class_ 576), (0, u "java/lang/CharSequence"), (22, u "CASE_INSENSITIVE_ORDER"), (0, u "Ljava/util/Comparator;"), (409, u "([C)V"), (90, u "serialPersistentFields"), (0, u "[Ljava/io/ObjectStreamField;"), (0, .class_ 1104), (0, u "java/lang/String$CaseInsensitiveComparator"), (1, .class_ 1107), (0, u "java/io/Serializable"), (0, .class_ 1109), (0, u "java/lang/Comparable"), (0, .class_ 1111), (0, u "java/lang/constant/Constable"), (0, .class_ 1113), (0, u "java/lang/constant/ConstantDesc"), (2, u "serialVersionUID"), (0, u "J"), (3, u "REPL"), (0, u "C"), (2, u "LATIN1"), (1, u "UTF16")] 323

def k7m0 : Method := { name := "<init>", desc := "()V", sig := { parameters := [], returnType := none }, accessFlags := 1, code := none }
def k7c1 : Code := { maxStack := 5, maxLocals := 2, code := jdk_42_method_3_code, exceptionTable := #[], attributes := #[] }
def k7m1 : Method := { name := "<init>", desc := "([C)V", sig := { parameters := [(.array .char)], returnType := none }, accessFlags := 1, code := some k7c1 }
def k7c2 : Code := { maxStack := 4, maxLocals := 6, code := jdk_42_method_149_code, exceptionTable := #[], attributes := #[] }
def k7m2 : Method := { name := "<init>", desc := "([CIILjava/lang/Void;)V", sig := { parameters := [(.array .char), .int, .int, (.object "java/lang/Void")], returnType := none }, accessFlags := 2, code := some k7c2 }
/-- java/lang/String -/
def k7 : Class := { plain "java/lang/String" (some 0) with
  accessFlags := 49
  interfaces := #[2, 3, 4, 5, 6]
  cf := some (fileOf pool7 10 #[.nestMembers #[1103]] #[{ accessFlags := 1, nameIndex := 5, descriptorIndex := 6, attributes := #[] }, { accessFlags := 1, nameIndex := 5, descriptorIndex := 1010, attributes := #[] }, { accessFlags := 2, nameIndex := 5, descriptorIndex := 29, attributes := #[] }] 49 2 #[1106, 1108, 575, 1110, 1112] #[{ accessFlags := 18, nameIndex := 13, descriptorIndex := 14, attributes := #[] }, { accessFlags := 18, nameIndex := 17, descriptorIndex := 18, attributes := #[] }, { accessFlags := 2, nameIndex := 21, descriptorIndex := 22, attributes := #[] }, { accessFlags := 2, nameIndex := 25, descriptorIndex := 26, attributes := #[] }, { accessFlags := 26, nameIndex := 1116, descriptorIndex := 1117, attributes := #[] }, { accessFlags := 24, nameIndex := 40, descriptorIndex := 26, attributes := #[] }, { accessFlags := 26, nameIndex := 1101, descriptorIndex := 1102, attributes := #[] }, { accessFlags := 26, nameIndex := 1121, descriptorIndex := 1122, attributes := #[] }, { accessFlags := 25, nameIndex := 599, descriptorIndex := 600, attributes := #[] }, { accessFlags := 24, nameIndex := 1125, descriptorIndex := 18, attributes := #[] }, { accessFlags := 24, nameIndex := 1127, descriptorIndex := 18, attributes := #[] }])
  fields := #[{ name := "value", type := (.array .byte), accessFlags := 18, slot := 0, constantValue := 0 }, { name := "coder", type := .byte, accessFlags := 18, slot := 1, constantValue := 0 }, { name := "hash", type := .int, accessFlags := 2, slot := 2, constantValue := 0 }, { name := "hashIsZero", type := .boolean, accessFlags := 2, slot := 3, constantValue := 0 }, { name := "serialVersionUID", type := .long, accessFlags := 26, slot := 0, constantValue := 0 }, { name := "COMPACT_STRINGS", type := .boolean, accessFlags := 24, slot := 1, constantValue := 0 }, { name := "serialPersistentFields", type := (.array (.object "java/io/ObjectStreamField")), accessFlags := 26, slot := 2, constantValue := 0 }, { name := "REPL", type := .char, accessFlags := 26, slot := 3, constantValue := 0 }, { name := "CASE_INSENSITIVE_ORDER", type := (.object "java/util/Comparator"), accessFlags := 25, slot := 4, constantValue := 0 }, { name := "LATIN1", type := .byte, accessFlags := 24, slot := 5, constantValue := 0 }, { name := "UTF16", type := .byte, accessFlags := 24, slot := 6, constantValue := 0 }]
  methods := #[k7m0, k7m1, k7m2]
  instanceTypes := #[(.array .byte), .byte, .int, .boolean]
  staticTypes := #[.long, .boolean, (.array (.object "java/io/ObjectStreamField")), .char, (.object "java/util/Comparator"), .byte, .byte]
  resolved := Array.replicate 1451 none
  statics := some 0 }

def pool8 : Array CpInfo := pool [(6, .class_ 8), (1, u "java/lang/Object"), (0, u "<init>"), (0, u "()V"), (1, .class_ 14), (1, u "java/lang/StringUTF16"), (31, u "$assertionsDisabled"), (0, u "Z"), (13, u "HI_BYTE_SHIFT"), (0, u "I"), (2, u "LO_BYTE_SHIFT"), (49, .methodref 12 116), (0, .nameAndType 117 118), (0, u "compress"), (0, u "([CI[BII)I"), (3, u "([CII)[B"), (138, u "coderFromArrayLen"), (0, u "([BI)B"), (106, .class_ 371), (1, u "java/lang/StringUTF16$LinesSpliterator"), (58, u "MAX_LENGTH"), (196, .class_ 628), (0, u "java/lang/StringUTF16$CodePointsSpliterator"), (0, .class_ 630), (0, u "java/lang/StringUTF16$CharsSpliterator")] 4

def k8m0 : Method := { name := "<init>", desc := "()V", sig := { parameters := [], returnType := none }, accessFlags := 0, code := none }
def k8c1 : Code := { maxStack := 2, maxLocals := 2, code := jdk_52_method_15_code, exceptionTable := #[], attributes := #[] }
def k8m1 : Method := { name := "coderFromArrayLen", desc := "([BI)B", sig := { parameters := [(.array .byte), .int], returnType := some .byte }, accessFlags := 8, code := some k8c1 }
def k8c2 : Code := { maxStack := 5, maxLocals := 6, code := jdk_52_method_16_code, exceptionTable := #[], attributes := #[] }
def k8m2 : Method := { name := "compress", desc := "([CII)[B", sig := { parameters := [(.array .char), .int, .int], returnType := some (.array .byte) }, accessFlags := 9, code := some k8c2 }
def k8c3 : Code := { maxStack := 3, maxLocals := 7, code := jdk_52_method_21_code, exceptionTable := #[], attributes := #[] }
def k8m3 : Method := { name := "compress", desc := "([CI[BII)I", sig := { parameters := [(.array .char), .int, (.array .byte), .int, .int], returnType := some .int }, accessFlags := 9, code := some k8c3 }
/-- java/lang/StringUTF16 -/
def k8 : Class := { plain "java/lang/StringUTF16" (some 0) with
  accessFlags := 48
  interfaces := #[]
  cf := some (fileOf pool8 12 #[.nestMembers #[627, 629, 369]] #[{ accessFlags := 0, nameIndex := 9, descriptorIndex := 10, attributes := #[] }, { accessFlags := 8, nameIndex := 261, descriptorIndex := 262, attributes := #[] }, { accessFlags := 9, nameIndex := 117, descriptorIndex := 122, attributes := #[] }, { accessFlags := 9, nameIndex := 117, descriptorIndex := 118, attributes := #[] }] 48 6 #[] #[{ accessFlags := 26, nameIndex := 61, descriptorIndex := 62, attributes := #[] }, { accessFlags := 26, nameIndex := 65, descriptorIndex := 62, attributes := #[] }, { accessFlags := 24, nameIndex := 430, descriptorIndex := 62, attributes := #[] }, { accessFlags := 4120, nameIndex := 46, descriptorIndex := 47, attributes := #[] }])
  fields := #[{ name := "HI_BYTE_SHIFT", type := .int, accessFlags := 26, slot := 0, constantValue := 0 }, { name := "LO_BYTE_SHIFT", type := .int, accessFlags := 26, slot := 1, constantValue := 0 }, { name := "MAX_LENGTH", type := .int, accessFlags := 24, slot := 2, constantValue := 0 }, { name := "$assertionsDisabled", type := .boolean, accessFlags := 4120, slot := 3, constantValue := 0 }]
  methods := #[k8m0, k8m1, k8m2, k8m3]
  instanceTypes := #[]
  staticTypes := #[.int, .int, .int, .boolean]
  resolved := Array.replicate 635 none
  statics := none }

def pool9 : Array CpInfo := pool [(1, .methodref 2 3), (0, .class_ 4), (0, .nameAndType 5 6), (0, u "java/lang/Object"), (0, u "<init>"), (0, u "()V"), (0, .string 8), (0, u "name"), (0, .methodref 10 11), (0, .class_ 12), (0, .nameAndType 13 14), (0, u "java/util/Objects"), (0, u "requireNonNull"), (0, u "(Ljava/lang/Object;Ljava/lang/String;)Ljava/lang/Object;"), (0, .class_ 16), (0, u "java/lang/String"), (0, .fieldref 18 19), (0, .class_ 20), (0, .nameAndType 8 21), (0, u "com/example/breach_or_proof/breachorproof/NameSymbol"), (0, u "Ljava/lang/String;"), (0, .fieldref 18 23), (0, .nameAndType 24 25), (0, u "isPrivate"), (0, u "Z"), (0, u "(Ljava/lang/String;Z)V")] 7

def k9c0 : Code := { maxStack := 3, maxLocals := 3, code := prog_22_method_1_code, exceptionTable := #[], attributes := #[] }
def k9m0 : Method := { name := "<init>", desc := "(Ljava/lang/String;Z)V", sig := { parameters := [(.object "java/lang/String"), .boolean], returnType := none }, accessFlags := 1, code := some k9c0 }
/-- com/example/breach_or_proof/breachorproof/NameSymbol -/
def k9 : Class := { plain "com/example/breach_or_proof/breachorproof/NameSymbol" (some 0) with
  accessFlags := 49
  interfaces := #[]
  cf := some (fileOf pool9 18 #[] #[{ accessFlags := 1, nameIndex := 5, descriptorIndex := 26, attributes := #[] }] 49 2 #[] #[{ accessFlags := 18, nameIndex := 8, descriptorIndex := 21, attributes := #[] }, { accessFlags := 18, nameIndex := 24, descriptorIndex := 25, attributes := #[] }])
  fields := #[{ name := "name", type := (.object "java/lang/String"), accessFlags := 18, slot := 0, constantValue := 0 }, { name := "isPrivate", type := .boolean, accessFlags := 18, slot := 1, constantValue := 0 }]
  methods := #[k9m0]
  instanceTypes := #[(.object "java/lang/String"), .boolean]
  staticTypes := #[]
  resolved := Array.replicate 34 none
  statics := none }

def pool10 : Array CpInfo := pool [(2, .class_ 4), (1, u "java/lang/Object"), (0, u "<init>"), (0, u "()V"), (35, .class_ 44), (1, u "java/util/Objects"), (0, u "requireNonNull"), (48, u "(Ljava/lang/Object;Ljava/lang/String;)Ljava/lang/Object;")] 89

def k10m0 : Method := { name := "<init>", desc := "()V", sig := { parameters := [], returnType := none }, accessFlags := 2, code := none }
def k10c1 : Code := { maxStack := 3, maxLocals := 2, code := jdk_31_method_11_code, exceptionTable := #[], attributes := #[] }
def k10m1 : Method := { name := "requireNonNull", desc := "(Ljava/lang/Object;Ljava/lang/String;)Ljava/lang/Object;", sig := { parameters := [(.object "java/lang/Object"), (.object "java/lang/String")], returnType := some (.object "java/lang/Object") }, accessFlags := 9, code := some k10c1 }
/-- java/util/Objects -/
def k10 : Class := { plain "java/util/Objects" (some 0) with
  accessFlags := 49
  interfaces := #[]
  cf := some (fileOf pool10 42 #[] #[{ accessFlags := 2, nameIndex := 5, descriptorIndex := 6, attributes := #[] }, { accessFlags := 9, nameIndex := 45, descriptorIndex := 94, attributes := #[] }] 49 2 #[] #[])
  fields := #[]
  methods := #[k10m0, k10m1]
  instanceTypes := #[]
  staticTypes := #[]
  resolved := Array.replicate 184 none
  statics := none }

def pool11 : Array CpInfo := pool [(1, .methodref 2 3), (0, .class_ 4), (0, .nameAndType 5 6), (0, u "java/lang/Object"), (0, u "<init>"), (0, u "()V"), (4, .class_ 13), (1, u "com/example/breach_or_proof/breachorproof/Term")] 53

def k11c0 : Code := { maxStack := 1, maxLocals := 1, code := prog_42_method_1_code, exceptionTable := #[], attributes := #[] }
def k11m0 : Method := { name := "<init>", desc := "()V", sig := { parameters := [], returnType := none }, accessFlags := 0, code := some k11c0 }
/-- com/example/breach_or_proof/breachorproof/Term -/
def k11 : Class := { plain "com/example/breach_or_proof/breachorproof/Term" (some 0) with
  accessFlags := 1057
  interfaces := #[]
  cf := some (fileOf pool11 11 #[] #[{ accessFlags := 0, nameIndex := 5, descriptorIndex := 6, attributes := #[] }] 1057 2 #[] #[])
  fields := #[]
  methods := #[k11m0]
  instanceTypes := #[]
  staticTypes := #[]
  resolved := Array.replicate 67 none
  statics := none }

def pool12 : Array CpInfo := pool [(1, .methodref 2 3), (0, .class_ 4), (0, .nameAndType 5 6), (0, u "com/example/breach_or_proof/breachorproof/Term"), (0, u "<init>"), (0, u "()V"), (0, .string 8), (0, u "symbol"), (0, .methodref 10 11), (0, .class_ 12), (0, .nameAndType 13 14), (0, u "java/util/Objects"), (0, u "requireNonNull"), (0, u "(Ljava/lang/Object;Ljava/lang/String;)Ljava/lang/Object;"), (0, .class_ 16), (0, u "com/example/breach_or_proof/breachorproof/NameSymbol"), (0, .fieldref 18 19), (0, .class_ 20), (0, .nameAndType 8 21), (0, u "com/example/breach_or_proof/breachorproof/Name"), (0, u "Lcom/example/breach_or_proof/breachorproof/NameSymbol;"), (20, u "(Lcom/example/breach_or_proof/breachorproof/NameSymbol;)V"), (12, u "equals"), (0, u "(Ljava/lang/Object;)Z")] 5

def k12c0 : Code := { maxStack := 3, maxLocals := 2, code := prog_20_method_1_code, exceptionTable := #[], attributes := #[] }
def k12m0 : Method := { name := "<init>", desc := "(Lcom/example/breach_or_proof/breachorproof/NameSymbol;)V", sig := { parameters := [(.object "com/example/breach_or_proof/breachorproof/NameSymbol")], returnType := none }, accessFlags := 1, code := some k12c0 }
def k12c1 : Code := { maxStack := 2, maxLocals := 2, code := prog_20_method_6_code, exceptionTable := #[], attributes := #[] }
def k12m1 : Method := { name := "equals", desc := "(Ljava/lang/Object;)Z", sig := { parameters := [(.object "java/lang/Object")], returnType := some .boolean }, accessFlags := 1, code := some k12c1 }
/-- com/example/breach_or_proof/breachorproof/Name -/
def k12 : Class := { plain "com/example/breach_or_proof/breachorproof/Name" (some 11) with
  accessFlags := 49
  interfaces := #[]
  cf := some (fileOf pool12 18 #[] #[{ accessFlags := 1, nameIndex := 5, descriptorIndex := 42, attributes := #[] }, { accessFlags := 1, nameIndex := 55, descriptorIndex := 56, attributes := #[] }] 49 2 #[] #[{ accessFlags := 18, nameIndex := 8, descriptorIndex := 21, attributes := #[] }])
  fields := #[{ name := "symbol", type := (.object "com/example/breach_or_proof/breachorproof/NameSymbol"), accessFlags := 18, slot := 0, constantValue := 0 }]
  methods := #[k12m0, k12m1]
  instanceTypes := #[(.object "com/example/breach_or_proof/breachorproof/NameSymbol")]
  staticTypes := #[]
  resolved := Array.replicate 62 none
  statics := none }

def pool13 : Array CpInfo := pool [(1, .methodref 2 3), (0, .class_ 4), (0, .nameAndType 5 6), (0, u "com/example/breach_or_proof/breachorproof/Term"), (0, u "<init>"), (0, u "()V"), (0, .string 8), (0, u "name"), (0, .methodref 10 11), (0, .class_ 12), (0, .nameAndType 13 14), (0, u "java/util/Objects"), (0, u "requireNonNull"), (0, u "(Ljava/lang/Object;Ljava/lang/String;)Ljava/lang/Object;"), (0, .class_ 16), (0, u "java/lang/String"), (0, .fieldref 18 19), (0, .class_ 20), (0, .nameAndType 8 21), (0, u "com/example/breach_or_proof/breachorproof/Variable"), (0, u "Ljava/lang/String;"), (12, u "(Ljava/lang/String;)V")] 14

def k13c0 : Code := { maxStack := 3, maxLocals := 2, code := prog_43_method_1_code, exceptionTable := #[], attributes := #[] }
def k13m0 : Method := { name := "<init>", desc := "(Ljava/lang/String;)V", sig := { parameters := [(.object "java/lang/String")], returnType := none }, accessFlags := 1, code := some k13c0 }
/-- com/example/breach_or_proof/breachorproof/Variable -/
def k13 : Class := { plain "com/example/breach_or_proof/breachorproof/Variable" (some 11) with
  accessFlags := 49
  interfaces := #[]
  cf := some (fileOf pool13 18 #[] #[{ accessFlags := 1, nameIndex := 5, descriptorIndex := 34, attributes := #[] }] 49 2 #[] #[{ accessFlags := 18, nameIndex := 8, descriptorIndex := 21, attributes := #[] }])
  fields := #[{ name := "name", type := (.object "java/lang/String"), accessFlags := 18, slot := 0, constantValue := 0 }]
  methods := #[k13m0]
  instanceTypes := #[(.object "java/lang/String")]
  staticTypes := #[]
  resolved := Array.replicate 49 none
  statics := none }

def pool14 : Array CpInfo := pool [(4, .class_ 6), (1, u "java/lang/Object"), (0, u "<init>"), (0, u "()V"), (5, .class_ 16), (1, u "java/lang/StringLatin1"), (104, u "$assertionsDisabled"), (0, u "Z"), (98, .class_ 223), (1, u "java/lang/StringLatin1$LinesSpliterator"), (166, .class_ 391), (0, u "java/lang/StringLatin1$CharsSpliterator")] 3

def k14m0 : Method := { name := "<init>", desc := "()V", sig := { parameters := [], returnType := none }, accessFlags := 0, code := none }
/-- java/lang/StringLatin1 -/
def k14 : Class := { plain "java/lang/StringLatin1" (some 0) with
  accessFlags := 48
  interfaces := #[]
  cf := some (fileOf pool14 14 #[.nestMembers #[390, 221]] #[{ accessFlags := 0, nameIndex := 7, descriptorIndex := 8, attributes := #[] }] 48 4 #[] #[{ accessFlags := 4120, nameIndex := 121, descriptorIndex := 122, attributes := #[] }])
  fields := #[{ name := "$assertionsDisabled", type := .boolean, accessFlags := 4120, slot := 0, constantValue := 0 }]
  methods := #[k14m0]
  instanceTypes := #[]
  staticTypes := #[.boolean]
  resolved := Array.replicate 395 none
  statics := none }

def pool15 : Array CpInfo := pool [(2, .class_ 4), (1, u "java/lang/Object"), (0, u "<init>"), (0, u "()V"), (17, .class_ 26), (1, u "jdk/internal/util/Preconditions"), (28, .class_ 56), (0, u "jdk/internal/util/Preconditions$4"), (57, .class_ 115), (0, u "jdk/internal/util/Preconditions$1"), (7, u "SIOOBE_FORMATTER"), (0, u "Ljava/util/function/BiFunction;"), (0, .class_ 126), (0, u "jdk/internal/util/Preconditions$2"), (3, u "AIOOBE_FORMATTER"), (0, .class_ 132), (0, u "jdk/internal/util/Preconditions$3"), (3, u "IOOBE_FORMATTER")] 57

def k15m0 : Method := { name := "<init>", desc := "()V", sig := { parameters := [], returnType := none }, accessFlags := 1, code := none }
/-- jdk/internal/util/Preconditions -/
def k15 : Class := { plain "jdk/internal/util/Preconditions" (some 0) with
  accessFlags := 33
  interfaces := #[]
  cf := some (fileOf pool15 24 #[.nestMembers #[55, 131, 125, 114]] #[{ accessFlags := 1, nameIndex := 5, descriptorIndex := 6, attributes := #[] }] 33 2 #[] #[{ accessFlags := 25, nameIndex := 123, descriptorIndex := 124, attributes := #[] }, { accessFlags := 25, nameIndex := 130, descriptorIndex := 124, attributes := #[] }, { accessFlags := 25, nameIndex := 136, descriptorIndex := 124, attributes := #[] }])
  fields := #[{ name := "SIOOBE_FORMATTER", type := (.object "java/util/function/BiFunction"), accessFlags := 25, slot := 0, constantValue := 0 }, { name := "AIOOBE_FORMATTER", type := (.object "java/util/function/BiFunction"), accessFlags := 25, slot := 1, constantValue := 0 }, { name := "IOOBE_FORMATTER", type := (.object "java/util/function/BiFunction"), accessFlags := 25, slot := 2, constantValue := 0 }]
  methods := #[k15m0]
  instanceTypes := #[]
  staticTypes := #[(.object "java/util/function/BiFunction"), (.object "java/util/function/BiFunction"), (.object "java/util/function/BiFunction")]
  resolved := Array.replicate 194 none
  statics := some 1 }

def pool16 : Array CpInfo := pool [(9, u "<init>"), (6, .class_ 18), (1, u "java/lang/Object"), (0, u "()V"), (1, .class_ 23), (1, u "jdk/internal/util/ArraysSupport"), (0, u "LOG2_ARRAY_LONG_INDEX_SCALE"), (0, u "I"), (2, u "U"), (0, u "Ljdk/internal/misc/Unsafe;"), (8, u "BIG_ENDIAN"), (0, u "Z"), (8, u "LOG2_BYTE_BIT_SIZE"), (4, u "LOG2_ARRAY_INT_INDEX_SCALE"), (54, u "JLA"), (0, u "Ljdk/internal/access/JavaLangAccess;"), (11, u "LOG2_ARRAY_BOOLEAN_INDEX_SCALE"), (9, u "LOG2_ARRAY_BYTE_INDEX_SCALE"), (5, u "LOG2_ARRAY_CHAR_INDEX_SCALE"), (5, u "LOG2_ARRAY_SHORT_INDEX_SCALE"), (18, u "LOG2_ARRAY_FLOAT_INDEX_SCALE"), (24, u "LOG2_ARRAY_DOUBLE_INDEX_SCALE"), (89, u "T_BOOLEAN"), (2, u "T_CHAR"), (1, u "T_FLOAT"), (1, u "T_DOUBLE"), (1, u "T_BYTE"), (1, u "T_SHORT"), (1, u "T_INT"), (1, u "T_LONG"), (1, u "SOFT_MAX_ARRAY_LENGTH")] 83

def k16m0 : Method := { name := "<init>", desc := "()V", sig := { parameters := [], returnType := none }, accessFlags := 2, code := none }
/-- jdk/internal/util/ArraysSupport -/
def k16 : Class := { plain "jdk/internal/util/ArraysSupport" (some 0) with
  accessFlags := 33
  interfaces := #[]
  cf := some (fileOf pool16 21 #[] #[{ accessFlags := 2, nameIndex := 9, descriptorIndex := 19, attributes := #[] }] 33 16 #[] #[{ accessFlags := 24, nameIndex := 28, descriptorIndex := 29, attributes := #[] }, { accessFlags := 26, nameIndex := 38, descriptorIndex := 39, attributes := #[] }, { accessFlags := 25, nameIndex := 121, descriptorIndex := 25, attributes := #[] }, { accessFlags := 25, nameIndex := 131, descriptorIndex := 25, attributes := #[] }, { accessFlags := 25, nameIndex := 137, descriptorIndex := 25, attributes := #[] }, { accessFlags := 25, nameIndex := 143, descriptorIndex := 25, attributes := #[] }, { accessFlags := 25, nameIndex := 53, descriptorIndex := 25, attributes := #[] }, { accessFlags := 25, nameIndex := 24, descriptorIndex := 25, attributes := #[] }, { accessFlags := 25, nameIndex := 162, descriptorIndex := 25, attributes := #[] }, { accessFlags := 25, nameIndex := 187, descriptorIndex := 25, attributes := #[] }, { accessFlags := 26, nameIndex := 48, descriptorIndex := 25, attributes := #[] }, { accessFlags := 25, nameIndex := 277, descriptorIndex := 25, attributes := #[] }, { accessFlags := 25, nameIndex := 280, descriptorIndex := 25, attributes := #[] }, { accessFlags := 25, nameIndex := 282, descriptorIndex := 25, attributes := #[] }, { accessFlags := 25, nameIndex := 284, descriptorIndex := 25, attributes := #[] }, { accessFlags := 25, nameIndex := 286, descriptorIndex := 25, attributes := #[] }, { accessFlags := 25, nameIndex := 288, descriptorIndex := 25, attributes := #[] }, { accessFlags := 25, nameIndex := 290, descriptorIndex := 25, attributes := #[] }, { accessFlags := 25, nameIndex := 292, descriptorIndex := 25, attributes := #[] }, { accessFlags := 26, nameIndex := 108, descriptorIndex := 109, attributes := #[] }, { accessFlags := 25, nameIndex := 294, descriptorIndex := 25, attributes := #[] }])
  fields := #[{ name := "U", type := (.object "jdk/internal/misc/Unsafe"), accessFlags := 24, slot := 0, constantValue := 0 }, { name := "BIG_ENDIAN", type := .boolean, accessFlags := 26, slot := 1, constantValue := 0 }, { name := "LOG2_ARRAY_BOOLEAN_INDEX_SCALE", type := .int, accessFlags := 25, slot := 2, constantValue := 0 }, { name := "LOG2_ARRAY_BYTE_INDEX_SCALE", type := .int, accessFlags := 25, slot := 3, constantValue := 0 }, { name := "LOG2_ARRAY_CHAR_INDEX_SCALE", type := .int, accessFlags := 25, slot := 4, constantValue := 0 }, { name := "LOG2_ARRAY_SHORT_INDEX_SCALE", type := .int, accessFlags := 25, slot := 5, constantValue := 0 }, { name := "LOG2_ARRAY_INT_INDEX_SCALE", type := .int, accessFlags := 25, slot := 6, constantValue := 0 }, { name := "LOG2_ARRAY_LONG_INDEX_SCALE", type := .int, accessFlags := 25, slot := 7, constantValue := 0 }, { name := "LOG2_ARRAY_FLOAT_INDEX_SCALE", type := .int, accessFlags := 25, slot := 8, constantValue := 0 }, { name := "LOG2_ARRAY_DOUBLE_INDEX_SCALE", type := .int, accessFlags := 25, slot := 9, constantValue := 0 }, { name := "LOG2_BYTE_BIT_SIZE", type := .int, accessFlags := 26, slot := 10, constantValue := 0 }, { name := "T_BOOLEAN", type := .int, accessFlags := 25, slot := 11, constantValue := 0 }, { name := "T_CHAR", type := .int, accessFlags := 25, slot := 12, constantValue := 0 }, { name := "T_FLOAT", type := .int, accessFlags := 25, slot := 13, constantValue := 0 }, { name := "T_DOUBLE", type := .int, accessFlags := 25, slot := 14, constantValue := 0 }, { name := "T_BYTE", type := .int, accessFlags := 25, slot := 15, constantValue := 0 }, { name := "T_SHORT", type := .int, accessFlags := 25, slot := 16, constantValue := 0 }, { name := "T_INT", type := .int, accessFlags := 25, slot := 17, constantValue := 0 }, { name := "T_LONG", type := .int, accessFlags := 25, slot := 18, constantValue := 0 }, { name := "JLA", type := (.object "jdk/internal/access/JavaLangAccess"), accessFlags := 26, slot := 19, constantValue := 0 }, { name := "SOFT_MAX_ARRAY_LENGTH", type := .int, accessFlags := 25, slot := 20, constantValue := 0 }]
  methods := #[k16m0]
  instanceTypes := #[]
  staticTypes := #[(.object "jdk/internal/misc/Unsafe"), .boolean, .int, .int, .int, .int, .int, .int, .int, .int, .int, .int, .int, .int, .int, .int, .int, .int, .int, (.object "jdk/internal/access/JavaLangAccess"), .int]
  resolved := Array.replicate 378 none
  statics := none }

def pool17 : Array CpInfo := pool [(1, u "java/lang/Cloneable"), (0, .class_ 1), (0, u "java/lang/Object"), (0, .class_ 3)] 3

/-- java/lang/Cloneable -/
def k17 : Class := { plain "java/lang/Cloneable" (some 0) with
  accessFlags := 1537
  interfaces := #[]
  cf := some (fileOf pool17 2 #[] #[] 1537 4 #[] #[])
  fields := #[]
  methods := #[]
  instanceTypes := #[]
  staticTypes := #[]
  resolved := Array.replicate 8 none
  statics := none }

/-- the primitive byte -/
def k18 : Class := { plain "byte" none with kind := .primitive 'B', accessFlags := 0x411 }
/-- [B -/
def k19 : Class := { plain "[B" (some 0) with kind := .array 18 .byte, interfaces := #[17, 2], accessFlags := 1041 }

/-- the primitive char -/
def k20 : Class := { plain "char" none with kind := .primitive 'C', accessFlags := 0x411 }
/-- [C -/
def k21 : Class := { plain "[C" (some 0) with kind := .array 20 .char, interfaces := #[17, 2], accessFlags := 1041 }

/-- the primitive int -/
def k22 : Class := { plain "int" none with kind := .primitive 'I', accessFlags := 0x411 }
/-- [I -/
def k23 : Class := { plain "[I" (some 0) with kind := .array 22 .int, interfaces := #[17, 2], accessFlags := 1041 }

def heap : Heap := #[{ cls := 7, slots := #[.long 0, .int 1, .null, .int 0, .null, .int 0, .int 0], vm := .statics 7 },
  { cls := 15, slots := #[.null, .null, .null], vm := .statics 15 }]
def classes : Array Class := #[k0, k1, k2, k3, k4, k5, k6, k7, k8, k9, k10, k11, k12, k13, k14, k15, k16, k17, k18, k19, k20, k21, k22, k23]
def interned : List (Array UInt16 × Addr) := []
def slotsUsed : Nat := 10
def theMethod : MethodId := ⟨1, 1⟩
def args0 : Array Value := #[.int 5, .int 2, .int 2, .int 9, .int 3, .int 1]
def aboutOver (below : List Frame) : State where
  vm := { classes := classes, interned := interned.toArray }
  heap := heap
  slotsUsed := slotsUsed
  threads := #[{ frames := .invoking theMethod args0 :: below }]
def below0 : List Frame := [.native { method := ⟨0, 0⟩, args := #[] }]
def about1 : State := aboutOver below0
def p0 : Program := .bare "" "" ""
def e0 : Env := launch0.env 0 0 0
theorem w_frames : about1.frames = Frame.invoking theMethod args0 :: below0 := rfl
set_option maxRecDepth 65536 in
theorem w_args : argsFit about1.vm theMethod args0 = true := by decide +kernel
set_option maxRecDepth 65536 in
theorem w_heap : heapFits about1 = true := by decide +kernel
set_option maxRecDepth 65536 in
theorem w_runnable : about1.curStatus? = some .runnable := by decide +kernel
set_option maxRecDepth 65536 in
theorem w_alone : about1.alone = true := by decide +kernel
set_option maxRecDepth 65536 in
theorem w_named : about1.methodNamed? x = some theMethod := by decide +kernel
set_option maxRecDepth 65536 in
theorem w_hears : about1.hears theMethod below0 = true := by decide +kernel
set_option maxRecDepth 65536 in
theorem w_ripe : about1.ripe theMethod args0 below0 = true := by decide +kernel
theorem w_running : about1.status = .running := rfl
set_option maxRecDepth 65536 in
theorem w_room : about1.hasRoom e0.platform room_1 = true :=
  launch0.hasRoom_least _ room_1 (by decide +kernel) (by decide +kernel) (by decide +kernel) (by decide +kernel) (by decide +kernel) (by decide +kernel)
theorem allAtoms_all (ts : List Jvm.Cond) (a : Array Jvm.Value) (st : Jvm.State) : (allAtoms ts).before a st = ts.all (fun c => c.before a st) := by
  induction ts with
  | nil => rfl
  | cons c t ih =>
    show (Jvm.Cond.and c (allAtoms t)).before a st = _
    rw [Jvm.Cond.before_and, ih, List.all_cons]
def words1 : List Jvm.Cond := Jvm.Cond.code x code maxLocals ret :: tables_1
/-- a 'code' word, met by the world's own term for the bytes: nothing is compared byte by byte -/
theorem code_word {y : MethodName} {bytes : ByteArray} {mx : Nat} {rt : Option FieldType} {a : Array Value} {s : State} {m : MethodId} {meth : Method} {c : Code} (h1 : s.methodNamed? y = some m) (h2 : s.vm.method? m = some meth) (h3 : meth.code = some c) (h4 : c.code = bytes)
    (h5 : (c.maxLocals == mx && c.exceptionTable.isEmpty && decide (c.maxStack ≤ mostOperands) && decide (meth.sig.returnType = rt) && !meth.locks && decide (parseMethodDescriptor y.desc = some meth.sig)) = true) : (Jvm.Cond.code y bytes mx rt).before a s = true := by
  simp only [Bool.and_eq_true, beq_iff_eq, Bool.not_eq_true', decide_eq_true_eq] at h5
  obtain ⟨⟨⟨⟨⟨g1, g2⟩, g3⟩, g4⟩, g5⟩, g6⟩ := h5
  simp [Cond.before, Cond.holds, Cond.value, h1, h2, h3, h4, g1, g2, g3, g4, g5, g6]
def isCode : Jvm.Cond → Bool
  | .code _ _ _ _ => true
  | _ => false
theorem all_split {L : List Jvm.Cond} {P : Jvm.Cond → Bool} (h1 : L.all (fun c => isCode c || P c) = true) (h2 : ∀ c ∈ L.filter isCode, P c = true) : L.all P = true := by
  refine List.all_eq_true.mpr fun c hc => ?_
  have h := List.all_eq_true.mp h1 c hc
  rcases Bool.eq_false_or_eq_true (isCode c) with hi | hi
  · exact h2 c (List.mem_filter.mpr ⟨hc, hi⟩)
  · simpa [hi] using h
set_option maxRecDepth 65536 in
theorem w_c0 : (Jvm.Cond.code x code maxLocals ret).before args0 about1 = true := code_word (m := ⟨1, 1⟩) (meth := k1m1) (c := k1c1) (by decide +kernel) rfl rfl rfl (by decide +kernel)
set_option maxRecDepth 65536 in
theorem w_c1 : (Jvm.Cond.code ({ cls := "java/lang/String", name := "<init>", desc := "([C)V" } : Jvm.MethodName) jdk_42_method_3_code (2 : Nat) (Option.none : Option Jvm.ClassFile.FieldType)).before args0 about1 = true := code_word (m := ⟨7, 1⟩) (meth := k7m1) (c := k7c1) (by decide +kernel) rfl rfl rfl (by decide +kernel)
set_option maxRecDepth 65536 in
theorem w_c2 : (Jvm.Cond.code ({ cls := "java/lang/String", name := "<init>", desc := "([CIILjava/lang/Void;)V" } : Jvm.MethodName) jdk_42_method_149_code (6 : Nat) (Option.none : Option Jvm.ClassFile.FieldType)).before args0 about1 = true := code_word (m := ⟨7, 2⟩) (meth := k7m2) (c := k7c2) (by decide +kernel) rfl rfl rfl (by decide +kernel)
set_option maxRecDepth 65536 in
theorem w_c3 : (Jvm.Cond.code ({ cls := "java/lang/Object", name := "<init>", desc := "()V" } : Jvm.MethodName) object_method_1_code (1 : Nat) (Option.none : Option Jvm.ClassFile.FieldType)).before args0 about1 = true := code_word (m := ⟨0, 0⟩) (meth := k0m0) (c := k0c0) (by decide +kernel) rfl rfl rfl (by decide +kernel)
set_option maxRecDepth 65536 in
theorem w_c4 : (Jvm.Cond.code ({ cls := "java/lang/StringUTF16", name := "compress", desc := "([CII)[B" } : Jvm.MethodName) jdk_52_method_16_code (6 : Nat) (Option.some (Jvm.ClassFile.FieldType.array Jvm.ClassFile.FieldType.byte))).before args0 about1 = true := code_word (m := ⟨8, 2⟩) (meth := k8m2) (c := k8c2) (by decide +kernel) rfl rfl rfl (by decide +kernel)
set_option maxRecDepth 65536 in
theorem w_c5 : (Jvm.Cond.code ({ cls := "java/lang/StringUTF16", name := "compress", desc := "([CI[BII)I" } : Jvm.MethodName) jdk_52_method_21_code (7 : Nat) (Option.some Jvm.ClassFile.FieldType.int)).before args0 about1 = true := code_word (m := ⟨8, 3⟩) (meth := k8m3) (c := k8c3) (by decide +kernel) rfl rfl rfl (by decide +kernel)
set_option maxRecDepth 65536 in
theorem w_c6 : (Jvm.Cond.code ({ cls := "java/lang/StringUTF16", name := "coderFromArrayLen", desc := "([BI)B" } : Jvm.MethodName) jdk_52_method_15_code (2 : Nat) (Option.some Jvm.ClassFile.FieldType.byte)).before args0 about1 = true := code_word (m := ⟨8, 1⟩) (meth := k8m1) (c := k8c1) (by decide +kernel) rfl rfl rfl (by decide +kernel)
set_option maxRecDepth 65536 in
theorem w_c7 : (Jvm.Cond.code ({ cls := "com/example/breach_or_proof/breachorproof/NameSymbol", name := "<init>", desc := "(Ljava/lang/String;Z)V" } : Jvm.MethodName) prog_22_method_1_code (3 : Nat) (Option.none : Option Jvm.ClassFile.FieldType)).before args0 about1 = true := code_word (m := ⟨9, 0⟩) (meth := k9m0) (c := k9c0) (by decide +kernel) rfl rfl rfl (by decide +kernel)
set_option maxRecDepth 65536 in
theorem w_c8 : (Jvm.Cond.code ({ cls := "java/util/Objects", name := "requireNonNull", desc := "(Ljava/lang/Object;Ljava/lang/String;)Ljava/lang/Object;" } : Jvm.MethodName) jdk_31_method_11_code (2 : Nat) (Option.some (Jvm.ClassFile.FieldType.object "java/lang/Object"))).before args0 about1 = true := code_word (m := ⟨10, 1⟩) (meth := k10m1) (c := k10c1) (by decide +kernel) rfl rfl rfl (by decide +kernel)
set_option maxRecDepth 65536 in
theorem w_c9 : (Jvm.Cond.code ({ cls := "com/example/breach_or_proof/breachorproof/Name", name := "<init>", desc := "(Lcom/example/breach_or_proof/breachorproof/NameSymbol;)V" } : Jvm.MethodName) prog_20_method_1_code (2 : Nat) (Option.none : Option Jvm.ClassFile.FieldType)).before args0 about1 = true := code_word (m := ⟨12, 0⟩) (meth := k12m0) (c := k12c0) (by decide +kernel) rfl rfl rfl (by decide +kernel)
set_option maxRecDepth 65536 in
theorem w_c10 : (Jvm.Cond.code ({ cls := "com/example/breach_or_proof/breachorproof/Term", name := "<init>", desc := "()V" } : Jvm.MethodName) prog_42_method_1_code (1 : Nat) (Option.none : Option Jvm.ClassFile.FieldType)).before args0 about1 = true := code_word (m := ⟨11, 0⟩) (meth := k11m0) (c := k11c0) (by decide +kernel) rfl rfl rfl (by decide +kernel)
set_option maxRecDepth 65536 in
theorem w_c11 : (Jvm.Cond.code ({ cls := "com/example/breach_or_proof/breachorproof/Variable", name := "<init>", desc := "(Ljava/lang/String;)V" } : Jvm.MethodName) prog_43_method_1_code (2 : Nat) (Option.none : Option Jvm.ClassFile.FieldType)).before args0 about1 = true := code_word (m := ⟨13, 0⟩) (meth := k13m0) (c := k13c0) (by decide +kernel) rfl rfl rfl (by decide +kernel)
set_option maxRecDepth 65536 in
theorem w_c12 : (Jvm.Cond.code ({ cls := "com/example/breach_or_proof/breachorproof/Name", name := "equals", desc := "(Ljava/lang/Object;)Z" } : Jvm.MethodName) prog_20_method_6_code (2 : Nat) (Option.some Jvm.ClassFile.FieldType.boolean)).before args0 about1 = true := code_word (m := ⟨12, 1⟩) (meth := k12m1) (c := k12c1) (by decide +kernel) rfl rfl rfl (by decide +kernel)
def codes1 : List Jvm.Cond := [Jvm.Cond.code x code maxLocals ret, Jvm.Cond.code ({ cls := "java/lang/String", name := "<init>", desc := "([C)V" } : Jvm.MethodName) jdk_42_method_3_code (2 : Nat) (Option.none : Option Jvm.ClassFile.FieldType), Jvm.Cond.code ({ cls := "java/lang/String", name := "<init>", desc := "([CIILjava/lang/Void;)V" } : Jvm.MethodName) jdk_42_method_149_code (6 : Nat) (Option.none : Option Jvm.ClassFile.FieldType), Jvm.Cond.code ({ cls := "java/lang/Object", name := "<init>", desc := "()V" } : Jvm.MethodName) object_method_1_code (1 : Nat) (Option.none : Option Jvm.ClassFile.FieldType), Jvm.Cond.code ({ cls := "java/lang/StringUTF16", name := "compress", desc := "([CII)[B" } : Jvm.MethodName) jdk_52_method_16_code (6 : Nat) (Option.some (Jvm.ClassFile.FieldType.array Jvm.ClassFile.FieldType.byte)), Jvm.Cond.code ({ cls := "java/lang/StringUTF16", name := "compress", desc := "([CI[BII)I" } : Jvm.MethodName) jdk_52_method_21_code (7 : Nat) (Option.some Jvm.ClassFile.FieldType.int), Jvm.Cond.code ({ cls := "java/lang/StringUTF16", name := "coderFromArrayLen", desc := "([BI)B" } : Jvm.MethodName) jdk_52_method_15_code (2 : Nat) (Option.some Jvm.ClassFile.FieldType.byte), Jvm.Cond.code ({ cls := "com/example/breach_or_proof/breachorproof/NameSymbol", name := "<init>", desc := "(Ljava/lang/String;Z)V" } : Jvm.MethodName) prog_22_method_1_code (3 : Nat) (Option.none : Option Jvm.ClassFile.FieldType), Jvm.Cond.code ({ cls := "java/util/Objects", name := "requireNonNull", desc := "(Ljava/lang/Object;Ljava/lang/String;)Ljava/lang/Object;" } : Jvm.MethodName) jdk_31_method_11_code (2 : Nat) (Option.some (Jvm.ClassFile.FieldType.object "java/lang/Object")), Jvm.Cond.code ({ cls := "com/example/breach_or_proof/breachorproof/Name", name := "<init>", desc := "(Lcom/example/breach_or_proof/breachorproof/NameSymbol;)V" } : Jvm.MethodName) prog_20_method_1_code (2 : Nat) (Option.none : Option Jvm.ClassFile.FieldType), Jvm.Cond.code ({ cls := "com/example/breach_or_proof/breachorproof/Term", name := "<init>", desc := "()V" } : Jvm.MethodName) prog_42_method_1_code (1 : Nat) (Option.none : Option Jvm.ClassFile.FieldType), Jvm.Cond.code ({ cls := "com/example/breach_or_proof/breachorproof/Variable", name := "<init>", desc := "(Ljava/lang/String;)V" } : Jvm.MethodName) prog_43_method_1_code (2 : Nat) (Option.none : Option Jvm.ClassFile.FieldType), Jvm.Cond.code ({ cls := "com/example/breach_or_proof/breachorproof/Name", name := "equals", desc := "(Ljava/lang/Object;)Z" } : Jvm.MethodName) prog_20_method_6_code (2 : Nat) (Option.some Jvm.ClassFile.FieldType.boolean)]
set_option maxRecDepth 65536 in
theorem codes_eq : words1.filter isCode = codes1 := rfl
theorem w_codes : ∀ c ∈ words1.filter isCode, c.before args0 about1 = true := by
  rw [codes_eq]
  intro c hc
  simp only [codes1, List.mem_cons, List.not_mem_nil, or_false] at hc
  rcases hc with rfl | rfl | rfl | rfl | rfl | rfl | rfl | rfl | rfl | rfl | rfl | rfl | rfl
  · exact w_c0
  · exact w_c1
  · exact w_c2
  · exact w_c3
  · exact w_c4
  · exact w_c5
  · exact w_c6
  · exact w_c7
  · exact w_c8
  · exact w_c9
  · exact w_c10
  · exact w_c11
  · exact w_c12
set_option maxRecDepth 65536 in
theorem w_t1 : (words1.take 24).all (fun c => isCode c || c.before args0 about1) = true := by decide +kernel
set_option maxRecDepth 65536 in
theorem w_t2 : ((words1.drop 24).take 24).all (fun c => isCode c || c.before args0 about1) = true := by decide +kernel
set_option maxRecDepth 65536 in
theorem w_t3 : (((words1.drop 24).drop 24).take 24).all (fun c => isCode c || c.before args0 about1) = true := by decide +kernel
set_option maxRecDepth 65536 in
theorem w_t4 : (((words1.drop 24).drop 24).drop 24).all (fun c => isCode c || c.before args0 about1) = true := by decide +kernel
theorem w_tables : (allAtoms (Jvm.Cond.code x code maxLocals ret :: tables_1)).before args0 about1 = true := by
  rw [allAtoms_all]
  show words1.all (fun c => c.before args0 about1) = true
  refine all_split ?_ w_codes
  rw [← List.take_append_drop 24 words1, List.all_append, w_t1, ← List.take_append_drop 24 (words1.drop 24), List.all_append, w_t2, ← List.take_append_drop 24 ((words1.drop 24).drop 24), List.all_append, w_t3, w_t4]
  rfl
set_option maxRecDepth 65536 in
theorem w_rest : rest_1_c.before args0 about1 = true := by decide +kernel
set_option maxRecDepth 65536 in
theorem w_case : (Jvm.Cond.and given_1 narrow_1).before args0 about1 = true := by decide +kernel
theorem w_applies : (headSpec (Jvm.Cond.code x code maxLocals ret :: tables_1) room_1).applies x e0.platform about1 = true :=
  (Spec.applies_iff w_frames).mpr ⟨w_running, w_runnable, w_alone, w_named, w_hears, w_ripe, w_room, w_tables⟩
theorem atStart : AtStart classFile x code maxLocals ret World_1 tables_1 room_1 Calls_1 rest_1 Pre_1 launch0 p0 e0 about1 theMethod args0 below0 :=
  ⟨lists_1, trivial, launch0.admits_env _ _ _, launch0.least_env, fairChoices_fair.cas, fairChoices_fair.clock, w_frames, w_args, w_heap, w_applies, trivial, w_rest, w_case⟩
end start1
theorem witness_1 : WitnessClaimed_1 := ⟨start1.p0, start1.e0, start1.about1, start1.theMethod, start1.args0, start1.below0, start1.atStart⟩
end Jvm.Pilot.@@N@@
