import JvmDerived
import JvmDerived.Pilot.@@N@@Statement
import JvmDerived.Pilot.@@N@@Code
set_option linter.unusedVariables false
set_option linter.unusedSimpArgs false
/- laws to paste: Road.backV (cut by pick.py; bodies as the Statement names them) -/
namespace Jvm.Pilot.@@N@@
namespace StrChars
open Jvm Sem ClassFile Op Lib Jvm.Stand Jvm.Free.XT Jvm.Free.ALB Jvm.Free.JM Jvm.Free
open Jvm.Lib.Cold (StaticIs)
/-- a char array whose places are chars -/
def Ch (a : Addr) (A : Cell) (U : State) : Prop := Arr .char a A U ∧ Typed .char A
theorem Ch.mv {a : Addr} {A : Cell} {U U' : State} (h : Ch a A U) (hal : U.vm.Alike U'.vm) (hh : U'.heap = U.heap) : Ch a A U' := ⟨h.1.mv hal hh, h.2⟩
theorem Ch.keep {a : Addr} {A : Cell} {U U' : State} (h : Ch a A U) (hal : U.vm.Alike U'.vm) (hk : U'.heap[a]? = some A) : Ch a A U' := ⟨h.1.keep hal hk, h.2⟩
/-- what place i of a char[]'s cell holds -/
def cv (A : Cell) (i : Nat) : Int32 := match A.slots[i]? with | some (.int x) => x | _ => 0
theorem Ch.get {a : Addr} {A : Cell} {U : State} (h : Ch a A U) {i : Nat} (hi : i < A.slots.size) : A.slots[i]? = some (.int (cv A i)) := by
  have e := Array.getElem?_eq_getElem hi
  have f := h.2 i _ e
  unfold cv; rw [e]
  generalize A.slots[i] = v at f
  cases v <;> simp [fits] at f ⊢
/-- the byte that i2b leaves of a char -/
def lo8 (x : Int32) : Int32 := x.toInt8.toInt32
theorem fits_lo8 (y : Int32) : fits .byte (.int (lo8 y)) = true := by
  have h1 := y.toInt8.le_toInt
  have h2 := y.toInt8.toInt_lt
  simp only [lo8, fits, Bool.and_eq_true, decide_eq_true_eq, Int32.le_iff_toInt_le, Int8.toInt_toInt32, show (-128 : Int32).toInt = -128 from by decide, show (127 : Int32).toInt = 127 from by decide]
  omega
/-- A' is A but that each place j of lo .. hi - 1 holds f j -/
def Laid (A A' : Cell) (lo hi : Nat) (f : Nat → Value) : Prop := A'.cls = A.cls ∧ A'.vm = A.vm ∧ A'.slots.size = A.slots.size ∧ ∀ i, A'.slots[i]? = if lo ≤ i ∧ i < hi then some (f i) else A.slots[i]?
theorem Laid.zero (A : Cell) (lo : Nat) (f : Nat → Value) : Laid A A lo (lo + 0) f := ⟨rfl, rfl, rfl, fun i => by rw [if_neg (by omega)]⟩
theorem Laid.step {A Ak : Cell} {lo k : Nat} {f : Nat → Value} {v : Value} (h : Laid A Ak lo k f) (hlo : lo ≤ k) (hk : k < Ak.slots.size) (hv : v = f k) : Laid A (Ak.setSlot k v) lo (k + 1) f := by
  refine ⟨h.1, h.2.1, by simpa [Cell.setSlot] using h.2.2.1, fun i => ?_⟩
  by_cases e : k = i
  · subst e; rw [Cell.slots_setSlot_self v hk, if_pos (by omega), hv]
  · rw [Cell.slots_setSlot_ne v e, h.2.2.2 i]
    by_cases q : lo ≤ i ∧ i < k
    · rw [if_pos q, if_pos (by omega)]
    · rw [if_neg q, if_neg (by omega)]
def U16 : String := "java/lang/StringUTF16"
namespace Cmp5
def yN : MethodName := ⟨"java/lang/StringUTF16", "compress", "([CI[BII)I"⟩
abbrev yB : ByteArray := jdk_52_method_21_code
theorem d0 : decode yB 0 = .ok (.iconst 0, 1) := by decide +kernel
theorem d1 : decode yB 1 = .ok (.istore 5, 2) := by decide +kernel
theorem d3 : decode yB 3 = .ok (.iload 5, 2) := by decide +kernel
theorem d5 : decode yB 5 = .ok (.iload 4, 2) := by decide +kernel
theorem d7 : decode yB 7 = .ok (.if_icmp (.ge) 37, 3) := by decide +kernel
theorem d10 : decode yB 10 = .ok (.aload_n 0, 1) := by decide +kernel
theorem d11 : decode yB 11 = .ok (.iload_n 1, 1) := by decide +kernel
theorem d12 : decode yB 12 = .ok (.caload, 1) := by decide +kernel
theorem d13 : decode yB 13 = .ok (.istore 6, 2) := by decide +kernel
theorem d15 : decode yB 15 = .ok (.iload 6, 2) := by decide +kernel
theorem d17 : decode yB 17 = .ok (.sipush 255, 3) := by decide +kernel
theorem d20 : decode yB 20 = .ok (.if_icmp (.le) 6, 3) := by decide +kernel
theorem d26 : decode yB 26 = .ok (.aload_n 2, 1) := by decide +kernel
theorem d27 : decode yB 27 = .ok (.iload_n 3, 1) := by decide +kernel
theorem d28 : decode yB 28 = .ok (.iload 6, 2) := by decide +kernel
theorem d30 : decode yB 30 = .ok (.i2b, 1) := by decide +kernel
theorem d31 : decode yB 31 = .ok (.bastore, 1) := by decide +kernel
theorem d32 : decode yB 32 = .ok (.iinc 1 1, 3) := by decide +kernel
theorem d35 : decode yB 35 = .ok (.iinc 3 1, 3) := by decide +kernel
theorem d38 : decode yB 38 = .ok (.iinc 5 1, 3) := by decide +kernel
theorem d41 : decode yB 41 = .ok (.goto (-38), 3) := by decide +kernel
theorem d44 : decode yB 44 = .ok (.iload 4, 2) := by decide +kernel
theorem d46 : decode yB 46 = .ok (.ireturn, 1) := by decide +kernel
def site : List Cond := []
def tab : Cond := tabOf yN yB 7 (some .int) site
def P (b : Addr) (A : Cell) (d : Addr) (B : Cell) (o q len : Nat) (args : Array Value) (s : State) : Prop := args = #[.ref b, .int (Int32.ofNat o), .ref d, .int (Int32.ofNat q), .int (Int32.ofNat len)] ∧ Ch b A s ∧ Arr .byte d B s ∧ b ≠ d ∧ o + len ≤ A.slots.size ∧ q + len ≤ B.slots.size ∧ ∀ i, i < len → ¬ 255 < cv A (o + i)
def E (b : Addr) (A : Cell) (d : Addr) (B : Cell) (o q len : Nat) (r : Option Value) (s u : State) : Prop := r = some (.int (Int32.ofNat len)) ∧ ∃ B', Put d B' s u ∧ Laid B B' q (q + len) (fun j => Value.int (lo8 (cv A (o + (j - q)))))
/-- no char of the range above 255: len; the places written hold each char's low byte -/
theorem law (l : Launch) (b : Addr) (A : Cell) (d : Addr) (B : Cell) (o q len : Nat) : Law l yN 5 5 0 0 yB 7 (some .int) site (P b A d B o q len) (E b A d B o q len) (copyLocs d q len) 0 0 := by
  refine Law.of_walk (plainFor_of_name (by decide +kernel)) (by decide +kernel) (by decide +kernel) (by decide) (fun _ _ h => by rw [h.1]; rfl) (fun _ U U' hal hh h => ⟨h.1, h.2.1.mv hal hh, h.2.2.1.mv hal hh, h.2.2.2⟩) (fun r U U' V V' h1 hal h2 h => ⟨h.1, h.2.elim fun B' q => ⟨B', q.1.mv h1 h2, q.2⟩⟩) ?_
  intro p e s m args below meth c s₁ X0 hexec hbytes hml hret hlk hnm hown hh0 W hP
  obtain ⟨rfl, hA, hB, hne, l1, l2, hp⟩ := hP
  have c1 : Steps p.tables e below (s₁.setTop (entryFrame m #[.ref b, .int (Int32.ofNat o), .ref d, .int (Int32.ofNat q), .int (Int32.ofNat len)] 7)) (s₁.setTop (mkF m 0 #[.val (.ref b), .val (.int (Int32.ofNat o)), .val (.ref d), .val (.int (Int32.ofNat q)), .val (.int (Int32.ofNat len)), .unset, .unset] [])) := entry rfl
  have hA0 := hA.1.mv X0.warmed.alike hh0
  have hB0 := hB.mv X0.warmed.alike hh0
  have a31 := hA.1.2.2.2
  have c2 : Steps p.tables e below (s₁.setTop (entryFrame m #[.ref b, .int (Int32.ofNat o), .ref d, .int (Int32.ofNat q), .int (Int32.ofNat len)] 7)) (s₁.setTop (mkF m 3 #[.val (.ref b), .val (.int (Int32.ofNat o)), .val (.ref d), .val (.int (Int32.ofNat q)), .val (.int (Int32.ofNat len)), .val (.int 0), .unset] [])) := c1.trans (by
    refine iconstV X0.here hexec rfl 0 (hb hbytes d0) (by decide) ?_
    refine XS.istore X0.here hexec rfl (hb hbytes d1) rfl rfl ?_
    exact Steps.refl _)
  have loop : ∀ (r i : Nat), i + r = len → ∀ (z : Slot), (z = .unset ∨ ∃ w, z = .val w ∧ w.category = 1) → ∀ (Tl : State) (Bk : Cell), Stand p l e { frames := 0, locals := 0, cells := 0, slots := 0 } s m #[.ref b, .int (Int32.ofNat o), .ref d, .int (Int32.ofNat q), .int (Int32.ofNat len)] below meth c Tl ([] ++ copyLocs d q i) 0 0 → Put d Bk s₁ Tl → Laid B Bk q (q + i) (fun j => Value.int (lo8 (cv A (o + (j - q))))) →
      Steps p.tables e below (s₁.setTop (entryFrame m #[.ref b, .int (Int32.ofNat o), .ref d, .int (Int32.ofNat q), .int (Int32.ofNat len)] 7)) (Tl.setTop (mkF m 3 #[.val (.ref b), .val (.int (Int32.ofNat (o + i))), .val (.ref d), .val (.int (Int32.ofNat (q + i))), .val (.int (Int32.ofNat len)), .val (.int (Int32.ofNat i)), z] [])) → ∃ (T' : State) (B' : Cell) (z' : Slot), Stand p l e { frames := 0, locals := 0, cells := 0, slots := 0 } s m #[.ref b, .int (Int32.ofNat o), .ref d, .int (Int32.ofNat q), .int (Int32.ofNat len)] below meth c T' ([] ++ copyLocs d q len) 0 0 ∧ Put d B' s₁ T' ∧ Laid B B' q (q + len) (fun j => Value.int (lo8 (cv A (o + (j - q))))) ∧
      Steps p.tables e below (s₁.setTop (entryFrame m #[.ref b, .int (Int32.ofNat o), .ref d, .int (Int32.ofNat q), .int (Int32.ofNat len)] 7)) (T'.setTop (mkF m 3 #[.val (.ref b), .val (.int (Int32.ofNat (o + len))), .val (.ref d), .val (.int (Int32.ofNat (q + len))), .val (.int (Int32.ofNat len)), .val (.int (Int32.ofNat len)), z'] [])) := by
    intro r
    induction r with
    | zero =>
      intro i hi z hz Tl Bk Xl pl fl cl
      have hil : i = len := by omega
      rw [hil] at Xl fl cl
      exact ⟨Tl, Bk, z, Xl, pl, fl, cl⟩
    | succ r ih =>
      intro i hi z hz Tl Bk Xl pl fl cl
      have all := X0.warmed.alike.symm.trans Xl.warmed.alike
      have hAl := hA0.keep all (pl.other hne hA0.1)
      have hBk := hB0.like all pl.1 fl.1 fl.2.1 fl.2.2.1
      have hlt : q + i < Bk.slots.size := by rw [fl.2.2.1]; omega
      have c3 : Steps p.tables e below (s₁.setTop (entryFrame m #[.ref b, .int (Int32.ofNat o), .ref d, .int (Int32.ofNat q), .int (Int32.ofNat len)] 7)) (Tl.setTop (mkF m 12 #[.val (.ref b), .val (.int (Int32.ofNat (o + i))), .val (.ref d), .val (.int (Int32.ofNat (q + i))), .val (.int (Int32.ofNat len)), .val (.int (Int32.ofNat i)), z] [.int (Int32.ofNat (o + i)), .ref b])) := cl.trans (by
        refine XS.iload Xl.here hexec rfl (hb hbytes d3) rfl ?_
        refine XS.iload Xl.here hexec rfl (hb hbytes d5) rfl ?_
        refine XS.icmpNo Xl.here hexec rfl (hb hbytes d7) rfl (ii_ge_f (lt32 (by omega) (by omega))) ?_
        refine XS.aloadN Xl.here hexec rfl (hb hbytes d10) rfl rfl ?_
        refine XS.iloadN Xl.here hexec rfl (hb hbytes d11) rfl ?_
        exact Steps.refl _)
      have c4 : Steps p.tables e below (s₁.setTop (entryFrame m #[.ref b, .int (Int32.ofNat o), .ref d, .int (Int32.ofNat q), .int (Int32.ofNat len)] 7)) (Tl.setTop (mkF m 13 #[.val (.ref b), .val (.int (Int32.ofNat (o + i))), .val (.ref d), .val (.int (Int32.ofNat (q + i))), .val (.int (Int32.ofNat len)), .val (.int (Int32.ofNat i)), z] [.int (cv A (o + i))])) := c3.trans (by
        refine Xl.aget hexec hAl rfl (hA.get (i := o + i) (by omega)) rfl rfl (hb hbytes d12) ?_
        exact Steps.refl _)
      have c5 : Steps p.tables e below (s₁.setTop (entryFrame m #[.ref b, .int (Int32.ofNat o), .ref d, .int (Int32.ofNat q), .int (Int32.ofNat len)] 7)) (Tl.setTop (mkF m 15 #[.val (.ref b), .val (.int (Int32.ofNat (o + i))), .val (.ref d), .val (.int (Int32.ofNat (q + i))), .val (.int (Int32.ofNat len)), .val (.int (Int32.ofNat i)), .val (.int (cv A (o + i)))] [])) := c4.trans (by
        refine XS.istoreS Xl.here hexec rfl (hb hbytes d13) rfl rfl hz ?_
        exact Steps.refl _)
      have c6 : Steps p.tables e below (s₁.setTop (entryFrame m #[.ref b, .int (Int32.ofNat o), .ref d, .int (Int32.ofNat q), .int (Int32.ofNat len)] 7)) (Tl.setTop (mkF m 31 #[.val (.ref b), .val (.int (Int32.ofNat (o + i))), .val (.ref d), .val (.int (Int32.ofNat (q + i))), .val (.int (Int32.ofNat len)), .val (.int (Int32.ofNat i)), .val (.int (cv A (o + i)))] [.int (lo8 (cv A (o + i))), .int (Int32.ofNat (q + i)), .ref d])) := c5.trans (by
        refine XS.iload Xl.here hexec rfl (hb hbytes d15) rfl ?_
        refine sipushV Xl.here hexec rfl 255 (hb hbytes d17) (by decide) ?_
        refine XS.icmpYes Xl.here hexec rfl (pc0 := 20) rfl (hb hbytes d20) rfl (ii_le_t (hp i (by omega))) (by decide) rfl ?_
        refine XS.aloadN Xl.here hexec rfl (hb hbytes d26) rfl rfl ?_
        refine XS.iloadN Xl.here hexec rfl (hb hbytes d27) rfl ?_
        refine XS.iload Xl.here hexec rfl (hb hbytes d28) rfl ?_
        refine i2b Xl.here hexec rfl (hb hbytes d30) rfl ?_
        exact Steps.refl _)
      obtain ⟨T7, X7, p7, st7⟩ := Xl.aput hexec hBk rfl hlt rfl (fits_lo8 (cv A (o + i))) (g := (mkF m 31 #[.val (.ref b), .val (.int (Int32.ofNat (o + i))), .val (.ref d), .val (.int (Int32.ofNat (q + i))), .val (.int (Int32.ofNat len)), .val (.int (Int32.ofNat i)), .val (.int (cv A (o + i)))] [.int (lo8 (cv A (o + i))), .int (Int32.ofNat (q + i)), .ref d])) rfl (rest := []) rfl (hb hbytes d31)
      have c8 : Steps p.tables e below (s₁.setTop (entryFrame m #[.ref b, .int (Int32.ofNat o), .ref d, .int (Int32.ofNat q), .int (Int32.ofNat len)] 7)) (T7.setTop (mkF m 32 #[.val (.ref b), .val (.int (Int32.ofNat (o + i))), .val (.ref d), .val (.int (Int32.ofNat (q + i))), .val (.int (Int32.ofNat len)), .val (.int (Int32.ofNat i)), .val (.int (cv A (o + i)))] [])) := c6.trans (st7 _ (Steps.refl _))
      have c9 : Steps p.tables e below (s₁.setTop (entryFrame m #[.ref b, .int (Int32.ofNat o), .ref d, .int (Int32.ofNat q), .int (Int32.ofNat len)] 7)) (T7.setTop (mkF m 3 #[.val (.ref b), .val (.int (Int32.ofNat (o + i) + 1)), .val (.ref d), .val (.int (Int32.ofNat (q + i) + 1)), .val (.int (Int32.ofNat len)), .val (.int (Int32.ofNat i + 1)), .val (.int (cv A (o + i)))] [])) := c8.trans (by
        refine iincV X7.here hexec rfl 1 (hb hbytes d32) (by decide) rfl rfl ?_
        refine iincV X7.here hexec rfl 1 (hb hbytes d35) (by decide) rfl rfl ?_
        refine iincV X7.here hexec rfl 1 (hb hbytes d38) (by decide) rfl rfl ?_
        refine XS.goto X7.here hexec rfl (pc0 := 41) rfl (hb hbytes d41) (by decide) rfl ?_
        exact Steps.refl _)
      have c10 : Steps p.tables e below (s₁.setTop (entryFrame m #[.ref b, .int (Int32.ofNat o), .ref d, .int (Int32.ofNat q), .int (Int32.ofNat len)] 7)) (T7.setTop (mkF m 3 #[.val (.ref b), .val (.int (Int32.ofNat (o + (i + 1)))), .val (.ref d), .val (.int (Int32.ofNat (q + (i + 1)))), .val (.int (Int32.ofNat len)), .val (.int (Int32.ofNat (i + 1))), .val (.int (cv A (o + i)))] [])) := by
        have := c9
        rw [succ32, succ32, succ32] at this
        exact this
      exact ih (i + 1) (by omega) _ (Or.inr ⟨_, rfl, rfl⟩) T7 _ (by rw [copyLocs_step, ← List.append_assoc]; exact X7) (pl.trans p7) (fl.step (by omega) hlt (by simp)) c10
  obtain ⟨T9, B9, z9, X9, p9, f9, g9⟩ := loop len 0 (by omega) .unset (Or.inl rfl) s₁ B (by simpa [copyLocs] using X0) ⟨hB0.1, fun _ _ => rfl, rfl⟩ (Laid.zero _ _ _) c2
  have c11 : Steps p.tables e below (s₁.setTop (entryFrame m #[.ref b, .int (Int32.ofNat o), .ref d, .int (Int32.ofNat q), .int (Int32.ofNat len)] 7)) (T9.setTop (mkF m 46 #[.val (.ref b), .val (.int (Int32.ofNat (o + len))), .val (.ref d), .val (.int (Int32.ofNat (q + len))), .val (.int (Int32.ofNat len)), .val (.int (Int32.ofNat len)), z9] [.int (Int32.ofNat len)])) := g9.trans (by
    refine XS.iload X9.here hexec rfl (hb hbytes d3) rfl ?_
    refine XS.iload X9.here hexec rfl (hb hbytes d5) rfl ?_
    refine XS.icmpYes X9.here hexec rfl (pc0 := 7) rfl (hb hbytes d7) rfl (ii_ge_t (nlt32 (by omega) (Nat.le_refl _))) (by decide) rfl ?_
    refine XS.iload X9.here hexec rfl (hb hbytes d44) rfl ?_
    exact Steps.refl _)
  exact ⟨T9, some (.int (Int32.ofNat len)), _, _, _, X9, by simp, rfl, rfl, (fun h => by cases h), ⟨rfl, B9, p9.from hh0, f9⟩, fun fs hl => c11.trans (X9.ireturnOut hexec hret rfl (Or.inl rfl) (hb hbytes d46) hl)⟩
end Cmp5
namespace Cmp3
def yN : MethodName := ⟨"java/lang/StringUTF16", "compress", "([CII)[B"⟩
abbrev yB : ByteArray := jdk_52_method_16_code
theorem d0 : decode yB 0 = .ok (.iload_n 2, 1) := by decide +kernel
theorem d1 : decode yB 1 = .ok (.newarray .byte, 2) := by decide +kernel
theorem d3 : decode yB 3 = .ok (.astore_n 3, 1) := by decide +kernel
theorem d4 : decode yB 4 = .ok (.aload_n 0, 1) := by decide +kernel
theorem d5 : decode yB 5 = .ok (.iload_n 1, 1) := by decide +kernel
theorem d6 : decode yB 6 = .ok (.aload_n 3, 1) := by decide +kernel
theorem d7 : decode yB 7 = .ok (.iconst 0, 1) := by decide +kernel
theorem d8 : decode yB 8 = .ok (.iload_n 2, 1) := by decide +kernel
theorem d9 : decode yB 9 = .ok (.invokestatic 115, 3) := by decide +kernel
theorem d12 : decode yB 12 = .ok (.istore 4, 2) := by decide +kernel
theorem d14 : decode yB 14 = .ok (.iload 4, 2) := by decide +kernel
theorem d16 : decode yB 16 = .ok (.iload_n 2, 1) := by decide +kernel
theorem d17 : decode yB 17 = .ok (.if_icmp (.eq) 40, 3) := by decide +kernel
theorem d57 : decode yB 57 = .ok (.aload_n 3, 1) := by decide +kernel
theorem d58 : decode yB 58 = .ok (.areturn, 1) := by decide +kernel
def site : List Cond := [.arrayClass .byte, Cmp5.tab] ++ staticW U16 115 Cmp5.yN
def tab : Cond := tabOf yN yB 6 (some (.array .byte)) site
def P (b : Addr) (A : Cell) (o len : Nat) (args : Array Value) (s : State) : Prop := args = #[.ref b, .int (Int32.ofNat o), .int (Int32.ofNat len)] ∧ Ch b A s ∧ o + len ≤ A.slots.size ∧ len ≤ 536870912 ∧ ∀ i, i < len → ¬ 255 < cv A (o + i)
def E (b : Addr) (A : Cell) (o len : Nat) (r : Option Value) (s u : State) : Prop := NewArr .byte "[B" len (fun j => .int (lo8 (cv A (o + j)))) r s u ∧ u.heap.size = s.heap.size + 1
/-- no char of the range above 255: a new byte[] of their low bytes -/
theorem law (l : Launch) (b : Addr) (A : Cell) (o len : Nat) : Law l yN 3 3 1 18 yB 6 (some (.array .byte)) site (P b A o len) (E b A o len) [] 1 len := by
  refine Law.of_walk (plainFor_of_name (by decide +kernel)) (by decide +kernel) (by decide +kernel) (by decide) (fun _ _ h => by rw [h.1]; rfl) (fun _ U U' hal hh h => ⟨h.1, h.2.1.mv hal hh, h.2.2⟩) (fun r U U' V V' h1 hal h2 h => ⟨NewArr.mv r U U' V V' h1 hal h2 h.1, by rw [h1, h2]; exact h.2⟩) ?_
  intro p e s m args below meth c s₁ X0 hexec hbytes hml hret hlk hnm hown hh0 W hP
  obtain ⟨rfl, hA, l1, l2, hp⟩ := hP
  have a31 := hA.1.2.2.2
  have c1 : Steps p.tables e below (s₁.setTop (entryFrame m #[.ref b, .int (Int32.ofNat o), .int (Int32.ofNat len)] 6)) (s₁.setTop (mkF m 0 #[.val (.ref b), .val (.int (Int32.ofNat o)), .val (.int (Int32.ofNat len)), .unset, .unset, .unset] [])) := entry rfl
  have c2 : Steps p.tables e below (s₁.setTop (entryFrame m #[.ref b, .int (Int32.ofNat o), .int (Int32.ofNat len)] 6)) (s₁.setTop (mkF m 1 #[.val (.ref b), .val (.int (Int32.ofNat o)), .val (.int (Int32.ofNat len)), .unset, .unset, .unset] [.int (Int32.ofNat len)])) := c1.trans (by
    refine XS.iloadN X0.here hexec rfl (hb hbytes d0) rfl ?_
    exact Steps.refl _)
  obtain ⟨T3, B3, X3, ba3, bs3, bv3, bh3, bf3, st3⟩ := X0.anew hexec (atype := .byte) (wk W (.arrayClass .byte)) rfl (by show len * 1 ≤ _; omega) (by omega) (g := (mkF m 1 #[.val (.ref b), .val (.int (Int32.ofNat o)), .val (.int (Int32.ofNat len)), .unset, .unset, .unset] [.int (Int32.ofNat len)])) rfl (hb hbytes d1) (rest := []) rfl (Nat.le_refl _) (by show 0 + len ≤ len; omega)
  rw [hh0] at ba3 st3
  have kp3 : XT.Kept s T3 := (XT.Kept.of_eq hh0).push bh3
  have hA3 := hA.keep X3.warmed.alike (kp3 _ _ hA.1.1)
  have hne : b ≠ s.heap.size := hA.1.ne
  have c4 : Steps p.tables e below (s₁.setTop (entryFrame m #[.ref b, .int (Int32.ofNat o), .int (Int32.ofNat len)] 6)) (T3.setTop (mkF m 3 #[.val (.ref b), .val (.int (Int32.ofNat o)), .val (.int (Int32.ofNat len)), .unset, .unset, .unset] [.ref s.heap.size])) := c2.trans (st3 _ (Steps.refl _))
  have c5 : Steps p.tables e below (s₁.setTop (entryFrame m #[.ref b, .int (Int32.ofNat o), .int (Int32.ofNat len)] 6)) (T3.setTop (mkF m 9 #[.val (.ref b), .val (.int (Int32.ofNat o)), .val (.int (Int32.ofNat len)), .val (.ref s.heap.size), .unset, .unset] [.int (Int32.ofNat len), .int 0, .ref s.heap.size, .int (Int32.ofNat o), .ref b])) := c4.trans (by
    refine XS.astoreN X3.here hexec rfl (hb hbytes d3) rfl rfl rfl ?_
    refine XS.aloadN X3.here hexec rfl (hb hbytes d4) rfl rfl ?_
    refine XS.iloadN X3.here hexec rfl (hb hbytes d5) rfl ?_
    refine XS.aloadN X3.here hexec rfl (hb hbytes d6) rfl rfl ?_
    refine iconstV X3.here hexec rfl 0 (hb hbytes d7) (by decide) ?_
    refine XS.iloadN X3.here hexec rfl (hb hbytes d8) rfl ?_
    exact Steps.refl _)
  obtain ⟨v6, T6, X6, E6, g6⟩ := X3.callS hexec (Cmp5.law l b A s.heap.size B3 o 0 len) hown (wks W (staticW U16 115 Cmp5.yN)) (wk W Cmp5.tab) (W := 0) (Nat.le_of_ble_eq_true rfl) (Nat.le_of_ble_eq_true rfl) (Nat.le_refl _) (by show 0 + len + 0 ≤ len; omega) (g := (mkF m 9 #[.val (.ref b), .val (.int (Int32.ofNat o)), .val (.int (Int32.ofNat len)), .val (.ref s.heap.size), .unset, .unset] [.int (Int32.ofNat len), .int (Int32.ofNat 0), .ref s.heap.size, .int (Int32.ofNat o), .ref b])) rfl (by rw [hml]; rfl) c5 (argsL := [.ref b, .int (Int32.ofNat o), .ref s.heap.size, .int (Int32.ofNat 0), .int (Int32.ofNat len)]) (rest := []) rfl rfl (by show 2 * 0 + 0 ≤ _; decide) (hb hbytes d9) (⟨rfl, hA3, ba3, hne, l1, by rw [bs3]; simp, hp⟩)
  obtain ⟨rfl, B6, p6, f6⟩ := E6
  have c7 : Steps p.tables e below (s₁.setTop (entryFrame m #[.ref b, .int (Int32.ofNat o), .int (Int32.ofNat len)] 6)) (T6.setTop (mkF m 12 #[.val (.ref b), .val (.int (Int32.ofNat o)), .val (.int (Int32.ofNat len)), .val (.ref s.heap.size), .unset, .unset] [.int (Int32.ofNat len)])) := g6
  have c8 : Steps p.tables e below (s₁.setTop (entryFrame m #[.ref b, .int (Int32.ofNat o), .int (Int32.ofNat len)] 6)) (T6.setTop (mkF m 58 #[.val (.ref b), .val (.int (Int32.ofNat o)), .val (.int (Int32.ofNat len)), .val (.ref s.heap.size), .val (.int (Int32.ofNat len)), .unset] [.ref s.heap.size])) := c7.trans (by
    refine XS.istore X6.here hexec rfl (hb hbytes d12) rfl rfl ?_
    refine XS.iload X6.here hexec rfl (hb hbytes d14) rfl ?_
    refine XS.iloadN X6.here hexec rfl (hb hbytes d16) rfl ?_
    refine XS.icmpYes X6.here hexec rfl (pc0 := 17) rfl (hb hbytes d17) rfl (ii_eq_t rfl) (by decide) rfl ?_
    refine XS.aloadN X6.here hexec rfl (hb hbytes d57) rfl rfl ?_
    exact Steps.refl _)
  have X8 := X6.wide (L' := []) (cells' := 1) (slots' := len) (fun x hx hlt => by
    simp only [List.nil_append, copyLocs, List.mem_map, List.mem_range] at hx
    obtain ⟨i, -, rfl⟩ := hx
    exact absurd hlt (Nat.lt_irrefl _)) (Nat.le_refl _) (by omega)
  exact ⟨T6, some (.ref s.heap.size), _, _, _, X8, rfl, rfl, rfl, (fun h => by cases h), ⟨⟨rfl, B6, ba3.like (X3.warmed.alike.symm.trans X6.warmed.alike) p6.1 f6.1 f6.2.1 f6.2.2.1, f6.2.1.trans bv3, by rw [X6.warmed.alike.findClass, f6.1]; exact bf3, by rw [f6.2.2.1, bs3]; simp, fun j hj => by rw [f6.2.2.2 j, if_pos (by omega)]; rfl, kp3.put p6 (Nat.le_refl _)⟩, by rw [p6.2.2, bh3, hh0]; simp⟩, fun fs hl => c8.trans (X8.areturnOut hexec rfl hret rfl (hb hbytes d58) hl)⟩
end Cmp3
namespace CodL
def yN : MethodName := ⟨"java/lang/StringUTF16", "coderFromArrayLen", "([BI)B"⟩
abbrev yB : ByteArray := jdk_52_method_15_code
theorem d0 : decode yB 0 = .ok (.iload_n 1, 1) := by decide +kernel
theorem d1 : decode yB 1 = .ok (.aload_n 0, 1) := by decide +kernel
theorem d2 : decode yB 2 = .ok (.arraylength, 1) := by decide +kernel
theorem d3 : decode yB 3 = .ok (.isub, 1) := by decide +kernel
theorem d4 : decode yB 4 = .ok (.bipush 31, 2) := by decide +kernel
theorem d6 : decode yB 6 = .ok (.iushr, 1) := by decide +kernel
theorem d7 : decode yB 7 = .ok (.i2b, 1) := by decide +kernel
theorem d8 : decode yB 8 = .ok (.ireturn, 1) := by decide +kernel
def site : List Cond := []
def tab : Cond := tabOf yN yB 2 (some .byte) site
def P (d : Addr) (B : Cell) (args : Array Value) (s : State) : Prop := args = #[.ref d, .int (Int32.ofNat B.slots.size)] ∧ Arr .byte d B s
def E (r : Option Value) (s u : State) : Prop := XT.PureE (some (.int 0)) r s u
/-- an array as long as the number of chars: LATIN1 -/
theorem law (l : Launch) (d : Addr) (B : Cell) : Law l yN 2 2 0 0 yB 2 (some .byte) site (P d B) E [] 0 0 := by
  refine Law.of_walk (plainFor_of_name (by decide +kernel)) (by decide +kernel) (by decide +kernel) (by decide) (fun _ _ h => by rw [h.1]; rfl) (fun _ U U' hal hh h => ⟨h.1, h.2.mv hal hh⟩) (fun r U U' V V' h1 hal h2 h => XT.PureE.mv r U U' V V' h1 hal h2 h) ?_
  intro p e s m args below meth c s₁ X0 hexec hbytes hml hret hlk hnm hown hh0 W hP
  obtain ⟨rfl, hB⟩ := hP
  have hB0 := hB.mv X0.warmed.alike hh0
  have c1 : Steps p.tables e below (s₁.setTop (entryFrame m #[.ref d, .int (Int32.ofNat B.slots.size)] 2)) (s₁.setTop (mkF m 0 #[.val (.ref d), .val (.int (Int32.ofNat B.slots.size))] [])) := entry rfl
  have c2 : Steps p.tables e below (s₁.setTop (entryFrame m #[.ref d, .int (Int32.ofNat B.slots.size)] 2)) (s₁.setTop (mkF m 2 #[.val (.ref d), .val (.int (Int32.ofNat B.slots.size))] [.ref d, .int (Int32.ofNat B.slots.size)])) := c1.trans (by
    refine XS.iloadN X0.here hexec rfl (hb hbytes d0) rfl ?_
    refine XS.aloadN X0.here hexec rfl (hb hbytes d1) rfl rfl ?_
    exact Steps.refl _)
  have c3 : Steps p.tables e below (s₁.setTop (entryFrame m #[.ref d, .int (Int32.ofNat B.slots.size)] 2)) (s₁.setTop (mkF m 8 #[.val (.ref d), .val (.int (Int32.ofNat B.slots.size))] [.int (lo8 (ushr (Int32.ofNat B.slots.size - Int32.ofNat B.slots.size) 31))])) := c2.trans (by
    refine X0.alen hexec hB0 rfl rfl (hb hbytes d2) ?_
    refine XS.isub X0.here hexec rfl (hb hbytes d3) rfl ?_
    refine bipushV X0.here hexec rfl 31 (hb hbytes d4) (by decide) ?_
    refine iushr X0.here hexec rfl (hb hbytes d6) rfl ?_
    refine i2b X0.here hexec rfl (hb hbytes d7) rfl ?_
    exact Steps.refl _)
  have e0 : lo8 (ushr (Int32.ofNat B.slots.size - Int32.ofNat B.slots.size) 31) = 0 := by rw [Int32.sub_self]; decide
  rw [e0] at c3
  exact ⟨s₁, some (.int 0), _, _, _, X0, rfl, rfl, rfl, (fun h => by cases h), ⟨rfl, hh0⟩, fun fs hl => c3.trans (X0.ireturnOut hexec hret rfl (Or.inr (Or.inr (Or.inl rfl))) (hb hbytes d8) hl)⟩
end CodL
/-- the String at a is Latin-1 over a new byte[] (the heap's one new cell): the low bytes of the len chars of A from o on; every cell but a is kept -/
def Got (a : Addr) (D : Cell) (fV fC : Field) (A : Cell) (o len : Nat) (r : Option Value) (s u : State) : Prop := r = none ∧ ∃ D' V : Cell, Blank "java/lang/String" a D' u ∧ Same D D' [fV.slot, fC.slot] ∧ D'.slots[fV.slot]? = some (.ref s.heap.size) ∧ D'.slots[fC.slot]? = some (.int 0) ∧ Arr .byte s.heap.size V u ∧ V.vm = .none ∧ u.vm.findClass "[B" = some V.cls ∧ V.slots.size = len ∧ (∀ j, j < len → V.slots[j]? = some (.int (lo8 (cv A (o + j))))) ∧ (∀ (y : Addr) (c : Cell), y ≠ a → s.heap[y]? = some c → u.heap[y]? = some c) ∧ u.heap.size = s.heap.size + 1
theorem Got.mv {a : Addr} {D A : Cell} {fV fC : Field} {o len : Nat} : ∀ r (U U' V V' : State), U'.heap = U.heap → V.vm.Alike V'.vm → V'.heap = V.heap → Got a D fV fC A o len r U V → Got a D fV fC A o len r U' V' :=
  fun r U U' V V' h1 hal h2 ⟨e0, D', X, a1, a2, a3, a4, a5, a6, a7, a8, a9, a10, a11⟩ => ⟨e0, D', X, a1.mv hal h2, a2, by rw [h1]; exact a3, a4, by rw [h1]; exact a5.mv hal h2, a6, by rw [hal.findClass]; exact a7, a8, a9, by rw [h1, h2]; exact a10, by rw [h1, h2]; exact a11⟩
namespace New4
def yN : MethodName := ⟨"java/lang/String", "<init>", "([CIILjava/lang/Void;)V"⟩
abbrev yB : ByteArray := jdk_42_method_149_code
theorem d0 : decode yB 0 = .ok (.aload_n 0, 1) := by decide +kernel
theorem d1 : decode yB 1 = .ok (.invokespecial 1, 3) := by decide +kernel
theorem d4 : decode yB 4 = .ok (.iload_n 3, 1) := by decide +kernel
theorem d5 : decode yB 5 = .ok (.ifCond (.ne) 22, 3) := by decide +kernel
theorem d27 : decode yB 27 = .ok (.getstatic 38, 3) := by decide +kernel
theorem d30 : decode yB 30 = .ok (.ifCond (.eq) 28, 3) := by decide +kernel
theorem d33 : decode yB 33 = .ok (.aload_n 1, 1) := by decide +kernel
theorem d34 : decode yB 34 = .ok (.iload_n 2, 1) := by decide +kernel
theorem d35 : decode yB 35 = .ok (.iload_n 3, 1) := by decide +kernel
theorem d36 : decode yB 36 = .ok (.invokestatic 177, 3) := by decide +kernel
theorem d39 : decode yB 39 = .ok (.astore 5, 2) := by decide +kernel
theorem d41 : decode yB 41 = .ok (.aload_n 0, 1) := by decide +kernel
theorem d42 : decode yB 42 = .ok (.aload 5, 2) := by decide +kernel
theorem d44 : decode yB 44 = .ok (.iload_n 3, 1) := by decide +kernel
theorem d45 : decode yB 45 = .ok (.invokestatic 47, 3) := by decide +kernel
theorem d48 : decode yB 48 = .ok (.putfield 15, 3) := by decide +kernel
theorem d51 : decode yB 51 = .ok (.aload_n 0, 1) := by decide +kernel
theorem d52 : decode yB 52 = .ok (.aload 5, 2) := by decide +kernel
theorem d54 : decode yB 54 = .ok (.putfield 9, 3) := by decide +kernel
theorem d57 : decode yB 57 = .ok (.return_, 1) := by decide +kernel
def site : List Cond := [.fieldLink "java/lang/String" 38 "java/lang/String" "COMPACT_STRINGS" "Z", Cmp3.tab, CodL.tab, .laysFinal "java/lang/String" "java/lang/String" "value" "[B", .fieldLink "java/lang/String" 9 "java/lang/String" "value" "[B", .laysFinal "java/lang/String" "java/lang/String" "coder" "B", .fieldLink "java/lang/String" 15 "java/lang/String" "coder" "B"] ++ objW "java/lang/String" 1 ++ staticW "java/lang/String" 177 Cmp3.yN ++ staticW "java/lang/String" 47 CodL.yN
def tab : Cond := tabOf yN yB 6 none site
def P (a : Addr) (D : Cell) (fV fC : Field) (b : Addr) (A : Cell) (z : Int32) (o len : Nat) (args : Array Value) (s : State) : Prop := args = #[.ref a, .ref b, .int (Int32.ofNat o), .int (Int32.ofNat len), .null] ∧ Blank "java/lang/String" a D s ∧ Found "java/lang/String" "value" "[B" fV s ∧ Found "java/lang/String" "coder" "B" fC s ∧ Ch b A s ∧ StaticIs s "java/lang/String" "COMPACT_STRINGS" "Z" (.int z) ∧ ¬ z = 0 ∧ 0 < len ∧ o + len ≤ A.slots.size ∧ len ≤ 536870912 ∧ ∀ i, i < len → ¬ 255 < cv A (o + i)
def E (a : Addr) (D : Cell) (fV fC : Field) (A : Cell) (o len : Nat) (r : Option Value) (s u : State) : Prop := Got a D fV fC A o len r s u
/-- len > 0, no char of the range above 255: a Latin-1 String of their low bytes -/
theorem law (l : Launch) (a : Addr) (D : Cell) (fV fC : Field) (b : Addr) (A : Cell) (z : Int32) (o len : Nat) : Law l yN 5 4 2 35 yB 6 none site (P a D fV fC b A z o len) (E a D fV fC A o len) [⟨a, fC.slot⟩, ⟨a, fV.slot⟩] 1 len := by
  refine Law.of_walk (plainFor_of_name (by decide +kernel)) (by decide +kernel) (by decide +kernel) (by decide) (fun _ _ h => by rw [h.1]; rfl) (fun _ U U' hal hh h => ⟨h.1, h.2.1.mv hal hh, h.2.2.1.al hal, h.2.2.2.1.al hal, h.2.2.2.2.1.mv hal hh, h.2.2.2.2.2.1.there hal hh, h.2.2.2.2.2.2⟩) (fun r U U' V V' h1 hal h2 h => Got.mv r U U' V V' h1 hal h2 h) ?_
  intro p e s m args below meth c s₁ X0 hexec hbytes hml hret hlk hnm hown hh0 W hP
  obtain ⟨rfl, hB, f1, f2, hA, s1, hz, l0, l1, l2, hp⟩ := hP
  have a31 := hA.1.2.2.2
  have c1 : Steps p.tables e below (s₁.setTop (entryFrame m #[.ref a, .ref b, .int (Int32.ofNat o), .int (Int32.ofNat len), .null] 6)) (s₁.setTop (mkF m 0 #[.val (.ref a), .val (.ref b), .val (.int (Int32.ofNat o)), .val (.int (Int32.ofNat len)), .val .null, .unset] [])) := entry rfl
  have c2 : Steps p.tables e below (s₁.setTop (entryFrame m #[.ref a, .ref b, .int (Int32.ofNat o), .int (Int32.ofNat len), .null] 6)) (s₁.setTop (mkF m 1 #[.val (.ref a), .val (.ref b), .val (.int (Int32.ofNat o)), .val (.int (Int32.ofNat len)), .val .null, .unset] [.ref a])) := c1.trans (by
    refine XS.aloadN X0.here hexec rfl (hb hbytes d0) rfl rfl ?_
    exact Steps.refl _)
  obtain ⟨T3, X3, q3, st3⟩ := X0.oinit hexec hown (wks W (objW "java/lang/String" 1)) (g := (mkF m 1 #[.val (.ref a), .val (.ref b), .val (.int (Int32.ofNat o)), .val (.int (Int32.ofNat len)), .val .null, .unset] [.ref a])) rfl (by rw [hml]; rfl) (rest := []) rfl (hb hbytes d1) (W := 0) (by show 2 * 0 + 0 ≤ _; decide) (Nat.le_of_ble_eq_true rfl) (Nat.le_of_ble_eq_true rfl)
  have hh3 := q3.trans hh0
  have c4 : Steps p.tables e below (s₁.setTop (entryFrame m #[.ref a, .ref b, .int (Int32.ofNat o), .int (Int32.ofNat len), .null] 6)) (T3.setTop (mkF m 27 #[.val (.ref a), .val (.ref b), .val (.int (Int32.ofNat o)), .val (.int (Int32.ofNat len)), .val .null, .unset] [])) := (c2.trans (st3 _ (Steps.refl _))).trans (by
    refine XS.iloadN X3.here hexec rfl (hb hbytes d4) rfl ?_
    refine XS.ifYes X3.here hexec rfl (pc0 := 5) rfl (hb hbytes d5) rfl (i0_ne_t (nz32 (by omega) l0)) (by decide) rfl ?_
    exact Steps.refl _)
  obtain ⟨T5, X5, q5, st5⟩ := X3.sget hexec hown (wk W (.fieldLink "java/lang/String" 38 "java/lang/String" "COMPACT_STRINGS" "Z")) s1 (fun _ _ h => by rw [hh3]; exact h) (g := (mkF m 27 #[.val (.ref a), .val (.ref b), .val (.int (Int32.ofNat o)), .val (.int (Int32.ofNat len)), .val .null, .unset] [])) rfl (hb hbytes d27)
  have hh5 := q5.trans hh3
  have c6 : Steps p.tables e below (s₁.setTop (entryFrame m #[.ref a, .ref b, .int (Int32.ofNat o), .int (Int32.ofNat len), .null] 6)) (T5.setTop (mkF m 30 #[.val (.ref a), .val (.ref b), .val (.int (Int32.ofNat o)), .val (.int (Int32.ofNat len)), .val .null, .unset] [.int z])) := c4.trans (st5 _ (Steps.refl _))
  have c7 : Steps p.tables e below (s₁.setTop (entryFrame m #[.ref a, .ref b, .int (Int32.ofNat o), .int (Int32.ofNat len), .null] 6)) (T5.setTop (mkF m 36 #[.val (.ref a), .val (.ref b), .val (.int (Int32.ofNat o)), .val (.int (Int32.ofNat len)), .val .null, .unset] [.int (Int32.ofNat len), .int (Int32.ofNat o), .ref b])) := c6.trans (by
    refine XS.ifNo X5.here hexec rfl (hb hbytes d30) rfl (i0_eq_f hz) ?_
    refine XS.aloadN X5.here hexec rfl (hb hbytes d33) rfl rfl ?_
    refine XS.iloadN X5.here hexec rfl (hb hbytes d34) rfl ?_
    refine XS.iloadN X5.here hexec rfl (hb hbytes d35) rfl ?_
    exact Steps.refl _)
  obtain ⟨v8, T8, X8, E8, g8⟩ := X5.callS hexec (Cmp3.law l b A o len) hown (wks W (staticW "java/lang/String" 177 Cmp3.yN)) (wk W Cmp3.tab) (W := 0) (Nat.le_of_ble_eq_true rfl) (Nat.le_of_ble_eq_true rfl) (Nat.le_refl _) (by show 0 + len ≤ len; omega) (g := (mkF m 36 #[.val (.ref a), .val (.ref b), .val (.int (Int32.ofNat o)), .val (.int (Int32.ofNat len)), .val .null, .unset] [.int (Int32.ofNat len), .int (Int32.ofNat o), .ref b])) rfl (by rw [hml]; rfl) c7 (argsL := [.ref b, .int (Int32.ofNat o), .int (Int32.ofNat len)]) (rest := []) rfl rfl (by show 2 * 0 + 0 ≤ _; decide) (hb hbytes d36) (⟨rfl, hA.mv X5.warmed.alike hh5, l1, l2, hp⟩)
  obtain ⟨e8, z8⟩ := E8
  obtain ⟨rfl, N, n1, n2, n3, n4, n5, n6⟩ := NewArr.mv _ T5 s _ _ hh5.symm (Vm.Alike.refl _) rfl e8
  rw [hh5] at z8
  have hB1 := hB.keep X8.warmed.alike (n6 _ _ hB.1)
  have hne : s.heap.size ≠ a := (Nat.ne_of_lt (Array.getElem?_eq_some_iff.mp hB.1).1).symm
  have c9 : Steps p.tables e below (s₁.setTop (entryFrame m #[.ref a, .ref b, .int (Int32.ofNat o), .int (Int32.ofNat len), .null] 6)) (T8.setTop (mkF m 39 #[.val (.ref a), .val (.ref b), .val (.int (Int32.ofNat o)), .val (.int (Int32.ofNat len)), .val .null, .unset] [.ref s.heap.size])) := g8
  have c10 : Steps p.tables e below (s₁.setTop (entryFrame m #[.ref a, .ref b, .int (Int32.ofNat o), .int (Int32.ofNat len), .null] 6)) (T8.setTop (mkF m 45 #[.val (.ref a), .val (.ref b), .val (.int (Int32.ofNat o)), .val (.int (Int32.ofNat len)), .val .null, .val (.ref s.heap.size)] [.int (Int32.ofNat N.slots.size), .ref s.heap.size, .ref a])) := by
    have hc : Steps p.tables e below (s₁.setTop (entryFrame m #[.ref a, .ref b, .int (Int32.ofNat o), .int (Int32.ofNat len), .null] 6)) (T8.setTop (mkF m 45 #[.val (.ref a), .val (.ref b), .val (.int (Int32.ofNat o)), .val (.int (Int32.ofNat len)), .val .null, .val (.ref s.heap.size)] [.int (Int32.ofNat len), .ref s.heap.size, .ref a])) := c9.trans (by
      refine XS.astore X8.here hexec rfl (hb hbytes d39) rfl rfl rfl ?_
      refine XS.aloadN X8.here hexec rfl (hb hbytes d41) rfl rfl ?_
      refine XS.aload X8.here hexec rfl (hb hbytes d42) rfl rfl ?_
      refine XS.iloadN X8.here hexec rfl (hb hbytes d44) rfl ?_
      exact Steps.refl _)
    rw [n4]; exact hc
  obtain ⟨v11, T11, X11, E11, g11⟩ := X8.callS hexec (CodL.law l s.heap.size N) hown (wks W (staticW "java/lang/String" 47 CodL.yN)) (wk W CodL.tab) (W := 1) (Nat.le_of_ble_eq_true rfl) (Nat.le_of_ble_eq_true rfl) (Nat.le_refl _) (by show 0 + len + 0 ≤ len; omega) (g := (mkF m 45 #[.val (.ref a), .val (.ref b), .val (.int (Int32.ofNat o)), .val (.int (Int32.ofNat len)), .val .null, .val (.ref s.heap.size)] [.int (Int32.ofNat N.slots.size), .ref s.heap.size, .ref a])) rfl (by rw [hml]; rfl) c10 (argsL := [.ref s.heap.size, .int (Int32.ofNat N.slots.size)]) (rest := [.ref a]) rfl rfl (by show 2 * 0 + (1 + 0) ≤ _; decide) (hb hbytes d45) (⟨rfl, n1⟩)
  obtain ⟨rfl, q11⟩ := E11
  have hB11 := hB1.mv (X8.warmed.alike.symm.trans X11.warmed.alike) q11
  have c12 : Steps p.tables e below (s₁.setTop (entryFrame m #[.ref a, .ref b, .int (Int32.ofNat o), .int (Int32.ofNat len), .null] 6)) (T11.setTop (mkF m 48 #[.val (.ref a), .val (.ref b), .val (.int (Int32.ofNat o)), .val (.int (Int32.ofNat len)), .val .null, .val (.ref s.heap.size)] [.int 0, .ref a])) := g11
  obtain ⟨T13, X13, p13, bl13, sl13, st13⟩ := X11.finit hexec hown (wk W (.fieldLink "java/lang/String" 15 "java/lang/String" "coder" "B")) (Or.inr ⟨_, (wk W (.laysFinal "java/lang/String" "java/lang/String" "coder" "B"))⟩) (Or.inl ⟨rfl, hnm⟩) f2 (Or.inl rfl) hB11 (t := .byte) (by decide +kernel) rfl (g := (mkF m 48 #[.val (.ref a), .val (.ref b), .val (.int (Int32.ofNat o)), .val (.int (Int32.ofNat len)), .val .null, .val (.ref s.heap.size)] [.int 0, .ref a])) rfl (rest := []) rfl (hb hbytes d48)
  have c14 : Steps p.tables e below (s₁.setTop (entryFrame m #[.ref a, .ref b, .int (Int32.ofNat o), .int (Int32.ofNat len), .null] 6)) (T13.setTop (mkF m 54 #[.val (.ref a), .val (.ref b), .val (.int (Int32.ofNat o)), .val (.int (Int32.ofNat len)), .val .null, .val (.ref s.heap.size)] [.ref s.heap.size, .ref a])) := (c12.trans (st13 _ (Steps.refl _))).trans (by
    refine XS.aloadN X13.here hexec rfl (hb hbytes d51) rfl rfl ?_
    refine XS.aload X13.here hexec rfl (hb hbytes d52) rfl rfl ?_
    exact Steps.refl _)
  obtain ⟨T15, X15, p15, bl15, sl15, st15⟩ := X13.finit hexec hown (wk W (.fieldLink "java/lang/String" 9 "java/lang/String" "value" "[B")) (Or.inr ⟨_, (wk W (.laysFinal "java/lang/String" "java/lang/String" "value" "[B"))⟩) (Or.inl ⟨rfl, hnm⟩) f1 (Or.inl rfl) bl13 (t := (.array .byte)) (by decide +kernel) rfl (g := (mkF m 54 #[.val (.ref a), .val (.ref b), .val (.int (Int32.ofNat o)), .val (.int (Int32.ofNat len)), .val .null, .val (.ref s.heap.size)] [.ref s.heap.size, .ref a])) rfl (rest := []) rfl (hb hbytes d54)
  have c16 : Steps p.tables e below (s₁.setTop (entryFrame m #[.ref a, .ref b, .int (Int32.ofNat o), .int (Int32.ofNat len), .null] 6)) (T15.setTop (mkF m 57 #[.val (.ref a), .val (.ref b), .val (.int (Int32.ofNat o)), .val (.int (Int32.ofNat len)), .val .null, .val (.ref s.heap.size)] [])) := c14.trans (st15 _ (Steps.refl _))
  have ap := apart (Or.inr ⟨_, (wk W (.laysFinal "java/lang/String" "java/lang/String" "value" "[B"))⟩) (Or.inr ⟨_, (wk W (.laysFinal "java/lang/String" "java/lang/String" "coder" "B"))⟩) f1 f2 (t₁ := .array .byte) (t₂ := .byte) (by decide +kernel) (by decide +kernel) (by decide)
  have al := X8.warmed.alike.symm.trans X15.warmed.alike
  have n7 : T11.heap[s.heap.size]? = some N := by rw [q11]; exact n1.1
  exact ⟨T15, none, _, _, _, X15, by simp, rfl, by omega, (fun _ => rfl), ⟨rfl, _, N, bl15, ((Same.refl D _).set _ (by simp)).set _ (by simp), sl15, (Cell.slots_setSlot_ne _ ap).trans sl13, n1.keep al (p15.other hne (p13.other hne n7)), n2, by rw [al.findClass]; exact n3, n4, n5, fun y c h1 h2 => p15.other h1 (p13.other h1 (by rw [q11]; exact n6 y c h2)), by rw [p15.2.2, p13.2.2, q11]; exact z8⟩, fun fs hl => c16.trans (X15.returnOut hexec hret (hb hbytes d57) hl)⟩
end New4
namespace New1
def yN : MethodName := ⟨"java/lang/String", "<init>", "([C)V"⟩
abbrev yB : ByteArray := jdk_42_method_3_code
theorem d0 : decode yB 0 = .ok (.aload_n 0, 1) := by decide +kernel
theorem d1 : decode yB 1 = .ok (.aload_n 1, 1) := by decide +kernel
theorem d2 : decode yB 2 = .ok (.iconst 0, 1) := by decide +kernel
theorem d3 : decode yB 3 = .ok (.aload_n 1, 1) := by decide +kernel
theorem d4 : decode yB 4 = .ok (.arraylength, 1) := by decide +kernel
theorem d5 : decode yB 5 = .ok (.aconst_null, 1) := by decide +kernel
theorem d6 : decode yB 6 = .ok (.invokespecial 27, 3) := by decide +kernel
theorem d9 : decode yB 9 = .ok (.return_, 1) := by decide +kernel
def site : List Cond := [New4.tab] ++ initW "java/lang/String" 27 New4.yN
def tab : Cond := tabOf yN yB 2 none site
def P (a : Addr) (D : Cell) (fV fC : Field) (b : Addr) (A : Cell) (z : Int32) (args : Array Value) (s : State) : Prop := args = #[.ref a, .ref b] ∧ Blank "java/lang/String" a D s ∧ Found "java/lang/String" "value" "[B" fV s ∧ Found "java/lang/String" "coder" "B" fC s ∧ Ch b A s ∧ StaticIs s "java/lang/String" "COMPACT_STRINGS" "Z" (.int z) ∧ ¬ z = 0 ∧ 0 < A.slots.size ∧ A.slots.size ≤ 536870912 ∧ ∀ i, i < A.slots.size → ¬ 255 < cv A i
def E (a : Addr) (D : Cell) (fV fC : Field) (A : Cell) (r : Option Value) (s u : State) : Prop := Got a D fV fC A 0 A.slots.size r s u
/-- new String(chars), not empty, no char above 255: a Latin-1 String of their low bytes -/
theorem law (l : Launch) (a : Addr) (D : Cell) (fV fC : Field) (b : Addr) (A : Cell) (z : Int32) : Law l yN 2 1 3 52 yB 2 none site (P a D fV fC b A z) (E a D fV fC A) [⟨a, fC.slot⟩, ⟨a, fV.slot⟩] 1 A.slots.size := by
  refine Law.of_walk (plainFor_of_name (by decide +kernel)) (by decide +kernel) (by decide +kernel) (by decide) (fun _ _ h => by rw [h.1]; rfl) (fun _ U U' hal hh h => ⟨h.1, h.2.1.mv hal hh, h.2.2.1.al hal, h.2.2.2.1.al hal, h.2.2.2.2.1.mv hal hh, h.2.2.2.2.2.1.there hal hh, h.2.2.2.2.2.2⟩) (fun r U U' V V' h1 hal h2 h => Got.mv r U U' V V' h1 hal h2 h) ?_
  intro p e s m args below meth c s₁ X0 hexec hbytes hml hret hlk hnm hown hh0 W hP
  obtain ⟨rfl, hB, f1, f2, hA, s1, hz, l0, l2, hp⟩ := hP
  have c1 : Steps p.tables e below (s₁.setTop (entryFrame m #[.ref a, .ref b] 2)) (s₁.setTop (mkF m 0 #[.val (.ref a), .val (.ref b)] [])) := entry rfl
  have c2 : Steps p.tables e below (s₁.setTop (entryFrame m #[.ref a, .ref b] 2)) (s₁.setTop (mkF m 6 #[.val (.ref a), .val (.ref b)] [.null, .int (Int32.ofNat A.slots.size), .int 0, .ref b, .ref a])) := c1.trans (by
    refine XS.aloadN X0.here hexec rfl (hb hbytes d0) rfl rfl ?_
    refine XS.aloadN X0.here hexec rfl (hb hbytes d1) rfl rfl ?_
    refine iconstV X0.here hexec rfl 0 (hb hbytes d2) (by decide) ?_
    refine XS.aloadN X0.here hexec rfl (hb hbytes d3) rfl rfl ?_
    refine X0.alen hexec (hA.1.mv X0.warmed.alike hh0) rfl rfl (hb hbytes d4) ?_
    refine XS.aconstNull X0.here hexec rfl (hb hbytes d5) ?_
    exact Steps.refl _)
  obtain ⟨v3, T3, X3, E3, g3⟩ := X0.callN hexec (New4.law l a D fV fC b A z 0 A.slots.size) rfl hown (wks W (initW "java/lang/String" 27 New4.yN)) (W New4.tab (by simp only [site, List.mem_cons, List.mem_append, true_or, or_true])) (W := 0) (Nat.le_of_ble_eq_true rfl) (Nat.le_of_ble_eq_true rfl) (Nat.le_refl _) (by show 0 + A.slots.size ≤ A.slots.size; omega) (g := (mkF m 6 #[.val (.ref a), .val (.ref b)] [.null, .int (Int32.ofNat A.slots.size), .int (Int32.ofNat 0), .ref b, .ref a])) rfl (by rw [hml]; rfl) c2 (argsL := [.ref b, .int (Int32.ofNat 0), .int (Int32.ofNat A.slots.size), .null]) (rest := []) rfl rfl (by show 2 * 0 + 0 ≤ _; decide) (hb hbytes d6) (⟨rfl, hB.mv X0.warmed.alike hh0, f1.al X0.warmed.alike, f2.al X0.warmed.alike, hA.mv X0.warmed.alike hh0, s1.there X0.warmed.alike hh0, hz, l0, by omega, l2, fun i hi => by rw [Nat.zero_add]; exact hp i hi⟩)
  have e0 := Got.mv _ s₁ s _ _ hh0.symm (Vm.Alike.refl _) rfl E3
  obtain rfl := e0.1
  have c4 : Steps p.tables e below (s₁.setTop (entryFrame m #[.ref a, .ref b] 2)) (T3.setTop (mkF m 9 #[.val (.ref a), .val (.ref b)] [])) := g3
  exact ⟨T3, none, _, _, _, X3, by simp, rfl, by omega, (fun _ => rfl), e0, fun fs hl => c4.trans (X3.returnOut hexec hret (hb hbytes d9) hl)⟩
theorem pays {l : Launch} {R : Room} {p : Program} {e : Env} {below : List Frame} {s : State} {sargs : Array Value} {len W : Nat} (a : Addr) (D : Cell) (fV fC : Field) (b : Addr) (A : Cell) (z : Int32) (htab : tab.before sargs s = true) (hfr : 4 ≤ R.frames) (hlo : W + 65 ≤ R.locals) :
    Back l R p e below s sargs yN len W (fun A₁ a₁ => A₁.cells + 1 ≤ R.cells ∧ A₁.slots + A.slots.size ≤ R.slots ∧ P a D fV fC b A z a₁ A₁.U) (fun A₁ _ v₁ B₁ => E a D fV fC A v₁ A₁.U B₁.U ∧ B₁.locs = A₁.locs ++ [⟨a, fC.slot⟩, ⟨a, fV.slot⟩] ∧ B₁.cells = A₁.cells + 1 ∧ B₁.slots = A₁.slots + A.slots.size) :=
  (law l a D fV fC b A z).pays htab hfr (by omega)
end New1
end StrChars
namespace StrChars.Road
open Jvm Sem ClassFile Op Lib Jvm.Stand Jvm.Free Jvm.Free.XT
open Jvm.Lib.Cold (StaticIs)
abbrev ST : String := "java/lang/String"
/-- every table word that New1's law asks, flat -/
abbrev words : List Jvm.Cond := [.code New1.yN New1.yB 2 none, .initialized ST, .methodLink ST 27 New4.yN, .instanceMethod New4.yN,
  .code New4.yN New4.yB 6 none, .fieldLink ST 38 ST "COMPACT_STRINGS" "Z", .laysFinal ST ST "value" "[B", .fieldLink ST 9 ST "value" "[B", .laysFinal ST ST "coder" "B", .fieldLink ST 15 ST "coder" "B",
  .methodLink ST 1 Lib.objectInit, .instanceMethod Lib.objectInit, .code Lib.objectInit ⟨#[0xb1]⟩ 1 none, .methodLink ST 177 Cmp3.yN, .static Cmp3.yN, .methodLink ST 47 CodL.yN, .static CodL.yN,
  .code Cmp3.yN Cmp3.yB 6 (some (.array .byte)), .initialized U16, .arrayClass .byte, .methodLink U16 115 Cmp5.yN, .static Cmp5.yN, .code Cmp5.yN Cmp5.yB 7 (some .int), .code CodL.yN CodL.yB 2 (some .byte)]
theorem tab_of {a : Array Value} {s : State} (h : ∀ w ∈ words, w.before a s = true) : New1.tab.before a s = true := by
  have h5 : Cmp5.tab.before a s = true := unparts (wk h (.code Cmp5.yN Cmp5.yB 7 (some .int))) (wks h (.initialized Cmp5.yN.cls :: Cmp5.site))
  have hc : CodL.tab.before a s = true := unparts (wk h (.code CodL.yN CodL.yB 2 (some .byte))) (wks h (.initialized CodL.yN.cls :: CodL.site))
  have q5 : ∀ w ∈ Cmp5.tab :: words, w.before a s = true := fun w hw => (List.mem_cons.mp hw).elim (fun e => e ▸ h5) (h w)
  have h3 : Cmp3.tab.before a s = true := unparts (wk q5 (.code Cmp3.yN Cmp3.yB 6 (some (.array .byte)))) (wks q5 (.initialized Cmp3.yN.cls :: Cmp3.site))
  have q3 : ∀ w ∈ Cmp3.tab :: CodL.tab :: words, w.before a s = true := fun w hw => (List.mem_cons.mp hw).elim (fun e => e ▸ h3) fun hw => (List.mem_cons.mp hw).elim (fun e => e ▸ hc) (h w)
  have h4 : New4.tab.before a s = true := unparts (wk q3 (.code New4.yN New4.yB 6 none)) (wks q3 (.initialized New4.yN.cls :: New4.site))
  have q4 : ∀ w ∈ New4.tab :: words, w.before a s = true := fun w hw => (List.mem_cons.mp hw).elim (fun e => e ▸ h4) (h w)
  exact unparts (wk q4 (.code New1.yN New1.yB 2 none)) (wks q4 (.initialized New1.yN.cls :: New1.site))
/-- the words ride from the start Z to the walk's own state -/
theorem moved {Z s : State} {a0 args : Array Value} (hZ : Z.Warmed39 s.vm) (hw : ∀ d ∈ words, d.before a0 Z = true) : ∀ d ∈ words, d.before args s = true := fun d hd => by
  have q := hw d hd
  have t : ∀ d ∈ words, d = .arrayClass .byte ∨ (d.onTables && d.keepsFace) = true := by decide +kernel
  rcases t d hd with rfl | t
  · exact RoadKit.mvA hZ q
  · exact RoadKit.mv hZ q t
/-- WHAT COMES BACK, over the tables of the start Z: h the heap at the call, h' behind it -/
def Q (Z : State) (x : Addr) (A : Cell) (h : Heap) (v : Option Value) (h' : Heap) (L : List Loc) : Prop := v = none ∧ (∀ y ∈ L, y.base = x) ∧ RoadKit.Keep h h' [x] ∧ h'.size = h.size + 1 ∧ RoadKit.Exa Z h' x ST ∧ RoadKit.Fld Z h' x ST "value" "[B" (.ref h.size) ∧ RoadKit.Fld Z h' x ST "coder" "B" (.int 0) ∧
  (∃ V : Cell, RoadKit.Arr Z h' h.size V .byte ∧ V.vm = .none ∧ Z.vm.findClass "[B" = some V.cls ∧ V.slots.size = A.slots.size ∧ ∀ j, j < A.slots.size → V.slots[j]? = some (.int (lo8 (cv A j)))) ∧
  ∀ (O n d : String) (w : Value), RoadKit.Fld Z h x O n d w → RoadKit.slotOf Z O n d ≠ RoadKit.slotOf Z ST "value" "[B" → RoadKit.slotOf Z O n d ≠ RoadKit.slotOf Z ST "coder" "B" → RoadKit.Fld Z h' x O n d w
/-- **new String(chars) AT A CALL, IN THE ROAD'S FORM**: for specialBack behind newO: x the fresh String, b the char[] with the cell A -/
theorem back {p : Program} {l : Launch} {e : Env} {R : Room} {s : State} {args : Array Value} {below : List Frame} {len W : Nat} {Z : State} {a0 : Array Value} {h : Heap} (hZ : Z.Warmed39 s.vm) (hw : ∀ d ∈ words, d.before a0 Z = true) {kI : Nat} (wi : (Jvm.Cond.instantiable ST kI).before a0 Z = true)
    {x b : Addr} {A : Cell} {z : Int32} {v0 c0 : Value} (E : RoadKit.Exa Z h x ST) (V : RoadKit.Fld Z h x ST "value" "[B" v0) (C : RoadKit.Fld Z h x ST "coder" "B" c0) (K : RoadKit.Arr Z h b A .char) (hty : Typed .char A) (S : RoadKit.Sta Z h ST "COMPACT_STRINGS" "Z" (.int z)) (hz : ¬ z = 0)
    (l0 : 0 < A.slots.size) (l2 : A.slots.size ≤ 536870912) (hp : ∀ i, i < A.slots.size → ¬ 255 < cv A i) (hfr : 4 ≤ R.frames) (hlo : W + 65 ≤ R.locals) :
    Back l R p e below s args New1.yN len W (fun P a => a = #[.ref x, .ref b] ∧ P.U.heap = h ∧ P.cells + 1 ≤ R.cells ∧ P.slots + A.slots.size ≤ R.slots)
      (fun P _ v B => ∃ L, Q Z x A h v B.U.heap L ∧ B.locs = P.locs ++ L ∧ B.cells = P.cells + 1 ∧ B.slots = P.slots + A.slots.size) := by
  intro m meth c P g ig mk a X hg hsize hdg hW hn hp'
  obtain ⟨rfl, rfl, r1, r2⟩ := hp'
  have al : Z.vm.Alike P.U.vm := hZ.alike.trans X.warmed.alike
  obtain ⟨D, cfV, kV, iV, fV, hD, gV, stV, knV, obV, asV, slV⟩ := id V
  obtain ⟨D', cfC, kC, iC, fC, hD', gC, stC, -, -, asC, slC⟩ := id C
  cases hD.symm.trans hD'
  obtain ⟨D2, kD, e1, e2, e3, e4, e5⟩ := id E
  cases hD.symm.trans e1
  obtain ⟨c2, k2, i1, i2, i3, -⟩ := Cond.instantiable_spec wi
  cases e2.symm.trans i1
  cases e3.symm.trans i2
  obtain ⟨kU, u1, u2⟩ := al.2.2 _ _ e3
  have hB : Blank ST x D P.U := ⟨hD, ⟨knV, fun q hq => by rw [hq] at obV; cases obV⟩, by rw [al.findClass]; exact e2, kU, u1, by rw [u2]; exact i3, by rw [u2]; exact e5 i3⟩
  have F1 : Found ST "value" "[B" fV P.U := ⟨SBG.found_only al ⟨cfV, kV, iV, gV⟩, stV⟩
  have F2 : Found ST "coder" "B" fC P.U := ⟨SBG.found_only al ⟨cfC, kC, iC, gC⟩, stC⟩
  have hA : Ch b A P.U := ⟨⟨K.1, State.isArrayOf_alike al K.2.1, K.2.2, by omega⟩, hty⟩
  have hS : StaticIs P.U ST "COMPACT_STRINGS" "Z" (.int z) := by
    obtain ⟨cfS, iS, kS, fS, st, cS, t1, t2, t3, t4, t5, t6, t7⟩ := S
    exact StaticIs.there (s := { Z with heap := P.U.heap }) ⟨cfS, iS, kS, fS, st, cS, t1, t2, t3, t4, t5, (fun q => by rw [q] at t6; cases t6), t7⟩ al rfl
  obtain ⟨v, B, X', ⟨⟨hv, E', V', q1, q2, q3, q4, q5, q6, q7, q8, q9, q10, q11⟩, hl, hc, hs⟩, st⟩ := New1.pays x D fV fC b A z (tab_of (moved hZ hw)) hfr hlo m meth c P g ig mk _ X hg hsize hdg hW hn ⟨r1, r2, rfl, hB, F1, F2, hA, hS, hz, l0, l2, hp⟩
  have al' : Z.vm.Alike B.U.vm := hZ.alike.trans X'.warmed.alike
  have hsz : E'.slots.size = D.slots.size := by
    obtain ⟨-, -, -, kB, w1, w2, w3⟩ := q1
    obtain ⟨kB', y1, y2⟩ := al'.2.2 _ _ e3
    rw [q2.2.1] at w1
    cases w1.symm.trans y1
    rw [w3, e5 i3, y2]
  refine ⟨v, B, X', ⟨_, ⟨hv, ?_, ⟨by omega, fun y cy hy hn' => q10 y cy (by simpa using hn') hy, fun y cy hy => ?_⟩, q11, ⟨E', _, q1.1, by rw [q2.2.1]; exact e2, by rw [q2.2.1]; exact e3, by rw [q2.1]; exact obV, fun _ => by rw [hsz]; exact e5 i3⟩,
    ⟨E', cfV, kV, iV, fV, q1.1, gV, stV, by rw [q2.1]; exact knV, by rw [q2.1]; exact obV, by rw [q2.2.1]; exact asV, q3⟩, ⟨E', cfC, kC, iC, fC, q1.1, gC, stC, by rw [q2.1]; exact knV, by rw [q2.1]; exact obV, by rw [q2.2.1]; exact asC, q4⟩,
    ⟨V', ⟨q5.1, State.isArrayOf_alike al'.symm q5.2.1, q5.2.2.1⟩, q6, by rw [← al'.findClass]; exact q7, q8, fun j hj => by have := q9 j hj; rwa [Nat.zero_add] at this⟩, fun O n d w F n1 n2 => ?_⟩, hl, hc, hs⟩, st⟩
  · intro y hy
    simp only [List.mem_cons, List.not_mem_nil, or_false] at hy
    rcases hy with rfl | rfl <;> rfl
  · by_cases q : y = x
    · subst q
      cases hD.symm.trans hy
      exact ⟨E', q1.1, q2.2.1, q2.1, hsz⟩
    · exact ⟨cy, q10 y cy q hy, rfl, rfl, rfl⟩
  · obtain ⟨D3, cf, k, i, f, g1, g2, g3, g4, g5, g6, g7⟩ := F
    cases hD.symm.trans g1
    simp only [RoadKit.slotOf, g2, gV, gC, Option.map_some, Option.getD_some] at n1 n2
    exact ⟨E', cf, k, i, f, q1.1, g2, g3, by rw [q2.1]; exact g4, by rw [q2.1]; exact g5, by rw [q2.2.1]; exact g6, by rw [q2.2.2 f.slot (by simp [n1, n2])]; exact g7⟩
end StrChars.Road
namespace StrChars.Road
open Jvm Sem ClassFile Op Lib Jvm.Stand Jvm.Free Jvm.Free.XT
/-- WHAT COMES BACK, the byte[] as a list of values -/
def QA (Z : State) (x : Addr) (zn : Int32) (cs : List Int32) (h : Heap) (v : Option Value) (h' : Heap) (L : List Loc) : Prop := v = none ∧ (∀ y ∈ L, y.base = x) ∧ RoadKit.Keep h h' [x] ∧ h'.size = h.size + 1 ∧ RoadKit.Exa Z h' x ST ∧ RoadKit.Fld Z h' x ST "value" "[B" (.ref h.size) ∧ RoadKit.Fld Z h' x ST "coder" "B" (.int 0) ∧
  (∃ kb, Z.vm.findClass "[B" = some kb ∧ RoadKit.Arv Z h' h.size kb .byte zn (cs.map fun c => .int (lo8 c)) (.int 0)) ∧
  ∀ (O n d : String) (w : Value), RoadKit.Fld Z h x O n d w → RoadKit.slotOf Z O n d ≠ RoadKit.slotOf Z ST "value" "[B" → RoadKit.slotOf Z O n d ≠ RoadKit.slotOf Z ST "coder" "B" → RoadKit.Fld Z h' x O n d w
/-- **new String(chars) AT A CALL, THE ARRAYS AS LISTS**: the char[] at b holds cs, not empty, no char above 255 -/
theorem backArv {p : Program} {l : Launch} {e : Env} {R : Room} {s : State} {args : Array Value} {below : List Frame} {len W : Nat} {Z : State} {a0 : Array Value} {h : Heap} (hZ : Z.Warmed39 s.vm) (hw : ∀ d ∈ words, d.before a0 Z = true) {kI : Nat} (wi : (Jvm.Cond.instantiable ST kI).before a0 Z = true)
    {x b : Addr} {k : ClassId} {zn z : Int32} {cs : List Int32} {dv v0 c0 : Value} (E : RoadKit.Exa Z h x ST) (V : RoadKit.Fld Z h x ST "value" "[B" v0) (C : RoadKit.Fld Z h x ST "coder" "B" c0) (K : RoadKit.Arv Z h b k .char zn (cs.map Value.int) dv) (S : RoadKit.Sta Z h ST "COMPACT_STRINGS" "Z" (.int z)) (hz : ¬ z = 0)
    (hlen : zn.toNatClampNeg = cs.length) (h0 : 0 < cs.length) (hbig : cs.length ≤ 536870912) (hall : ∀ c ∈ cs, ¬ 255 < c) (hfr : 4 ≤ R.frames) (hlo : W + 65 ≤ R.locals) :
    Back l R p e below s args New1.yN len W (fun P a => a = #[.ref x, .ref b] ∧ P.U.heap = h ∧ P.cells + 1 ≤ R.cells ∧ P.slots + cs.length ≤ R.slots)
      (fun P _ v B => ∃ L, QA Z x zn cs h v B.U.heap L ∧ B.locs = P.locs ++ L ∧ B.cells = P.cells + 1 ∧ B.slots = P.slots + cs.length) := by
  obtain ⟨A, K1, K2, K3, K4, K5, K6⟩ := K
  have e : A.slots.size = cs.length := K3.trans hlen
  have hat : ∀ (i : Nat) (hi : i < cs.length), A.slots[i]? = some (.int cs[i]) := fun i hi => by rw [K5 i (by omega)]; simp [List.getD_eq_getElem?_getD, hi]
  have hcv : ∀ (i : Nat) (hi : i < cs.length), cv A i = cs[i] := fun i hi => by unfold cv; rw [hat i hi]
  have hty : Typed .char A := fun i v hv => by
    have hi : i < A.slots.size := (Array.getElem?_eq_some_iff.mp hv).1
    have q := K5 i hi
    rw [hv] at q
    rw [Option.some.inj q]
    exact K6 i hi
  refine Back.mono (back hZ hw wi E V C K1 hty S hz (by omega) (by omega) (fun i hi => by rw [hcv i (by omega)]; exact hall _ (List.getElem_mem _)) hfr hlo) (fun P a hp => ⟨hp.1, hp.2.1, hp.2.2.1, by rw [e]; exact hp.2.2.2⟩) (fun P a v B hp hq => ?_)
  obtain ⟨L, ⟨q1, q2, q3, q4, q5, q6, q7, ⟨V', v1, v2, v3, v4, v5⟩, q9⟩, hl, hc, hs⟩ := hq
  refine ⟨L, ⟨q1, q2, q3, q4, q5, q6, q7, ⟨V'.cls, v3, V', v1, rfl, by rw [v4, e, hlen], K4, fun i hi => ?_, fun i hi => ?_⟩, q9⟩, hl, hc, by rw [hs, e]⟩
  · have hi' : i < cs.length := by omega
    rw [v5 i (by omega), hcv i hi']; simp [List.getD_eq_getElem?_getD, hi']
  · have hi' : i < cs.length := by omega
    simp only [List.getD_eq_getElem?_getD, List.getElem?_map, List.getElem?_eq_getElem hi', Option.map_some, Option.getD_some]
    exact fits_lo8 _
end StrChars.Road
namespace StrChars.Road
open Jvm Sem ClassFile Op Lib Jvm.Stand Jvm.Free Jvm.Free.XT
/-- WHAT COMES BACK, in the writer's own shape -/
def QV (Z : State) (x : Addr) (N : Int32) (bs : List Int32) (h : Heap) (n0 : Nat) (v : Option Value) (h' : Heap) (L : List Loc) : Prop := v = none ∧ RoadKit.Fr n0 L ∧ RoadKit.Keep h h' [x] ∧ RoadKit.Exa Z h' x ST ∧ RoadKit.Fld Z h' x ST "coder" "B" (.int 0) ∧
  ∃ (t : Addr) (kb : ClassId), n0 ≤ t ∧ h.size ≤ t ∧ ¬ t = x ∧ RoadKit.Fld Z h' x ST "value" "[B" (.ref t) ∧ RoadKit.Arv Z h' t kb .byte N (bs.map Value.int) (.int 0)
/-- **new String(chars) AT A CALL, FOR THE WRITER**: a char[] of n known ints, each 0 to 255 -/
theorem backV {p : Program} {l : Launch} {e : Env} {R : Room} {s : State} {args : Array Value} {below : List Frame} {len W : Nat} {Z : State} {a0 : Array Value} {h : Heap} (hZ : Z.Warmed39 s.vm) (hw : ∀ d ∈ words, d.before a0 Z = true) {kI : Nat} (wi : (Jvm.Cond.instantiable ST kI).before a0 Z = true)
    {x b : Addr} {kC : ClassId} {cs bs : List Int32} {d v0 c0 : Value} {z N : Int32} {n n0 : Nat} (hx0 : n0 ≤ x) (hh0 : n0 ≤ h.size) (E : RoadKit.Exa Z h x ST) (V : RoadKit.Fld Z h x ST "value" "[B" v0) (C : RoadKit.Fld Z h x ST "coder" "B" c0) (K : RoadKit.Arv Z h b kC .char N (cs.map Value.int) d) (S : RoadKit.Sta Z h ST "COMPACT_STRINGS" "Z" (.int z)) (hz : ¬ z = 0)
    (hn : cs.length = n) (hN : N = Int32.ofNat n) (l0 : 0 < n) (l2 : n ≤ 4000) (hp : ∀ c ∈ cs, ¬ c < 0 ∧ ¬ (255 : Int32) < c) (hb : bs = cs.map (fun c => c.toInt8.toInt32)) (hfr : 4 ≤ R.frames) (hlo : W + 65 ≤ R.locals) :
    Back l R p e below s args (⟨"java/lang/String", "<init>", "([C)V"⟩ : MethodName) len W (fun P a => a = #[.ref x, .ref b] ∧ P.U.heap = h ∧ P.cells + 1 ≤ R.cells ∧ P.slots + n ≤ R.slots)
      (fun P _ v B => ∃ L, QV Z x N bs h n0 v B.U.heap L ∧ B.locs = P.locs ++ L ∧ B.cells = P.cells + 1 ∧ B.slots = P.slots + n) := by
  subst hn hN hb
  refine Back.mono (backArv hZ hw wi E V C K S hz (n32 (by omega)) l0 (by omega) (fun c hc => (hp c hc).2) hfr hlo) (fun P a hp => hp) (fun P a v B hp hq => ?_)
  obtain ⟨L, ⟨q1, q2, q3, q4, q5, q6, q7, ⟨kb, v1, v2⟩, q9⟩, hl, hc, hs⟩ := hq
  exact ⟨L, ⟨q1, fun y hy => by rw [q2 y hy]; exact hx0, q3, q5, q7, h.size, kb, hh0, Nat.le_refl _, Nat.ne_of_gt E.lt, q6, by rw [List.map_map]; exact v2⟩, hl, hc, hs⟩
end StrChars.Road
end Jvm.Pilot.@@N@@
namespace Jvm.Pilot.@@N@@
open Jvm Jvm.ClassFile Sem Op Lib Jvm.Free Jvm.Stand Jvm.LawKit Jvm.RoadKit Bundle Jvm.Pilot.@@N@@.Jvm.D
section OwnKit
variable {p : Program} {l : Launch} {e : Env} {R : Room} {s : State} {m : MethodId} {args : Array Value} {below : List Frame} {meth : Method} {c : Code} {T : State} {locs : List Loc} {cells slots : Nat}
def own_Goes (p : Program) (e : Env) (below : List Frame) (U : State) (Q : Outcome → State → Prop) : Prop := ∃ (t : State) (o : Outcome), Steps p.tables e below U t ∧ t.status = .running ∧ Ended t below o ∧ Q o t
theorem own_go {U U' : State} {Q : Outcome → State → Prop} (k : ∀ t, Steps p.tables e below U' t → Steps p.tables e below U t) (h : own_Goes p e below U' Q) : own_Goes p e below U Q := by
  obtain ⟨t, o, h1, h2⟩ := h
  exact ⟨t, o, k t h1, h2⟩
theorem own_goS {U U' : State} {Q : Outcome → State → Prop} (k : Steps p.tables e below U U') (h : own_Goes p e below U' Q) : own_Goes p e below U Q := own_go (fun t h => k.trans h) h
theorem own_cast {g g' : JFrame} {Q : Outcome → State → Prop} (q : g = g') (h : own_Goes p e below (T.setTop g') Q) : own_Goes p e below (T.setTop g) Q := q ▸ h
def own_PostN (s : State) (Qc : Option Value → Heap → List Loc → Prop) (k n : Nat) : Outcome → State → Prop := fun o t => ∃ v L, o = .returned v ∧ Qc v t.heap L ∧ FrameEnd s o t L k n
def own_PostW (s : State) (Qc : Option Value → Heap → List Loc → Prop) (k n : Nat) : Outcome → State → Prop := fun o t => ∃ v L, o = .returned v ∧ Qc v t.heap L ∧ ReturnedEndW s o t L k n
theorem own_endN (X : Stand p l e R s m args below meth c T locs cells slots) {v : Option Value} (hv : meth.sig.returnType = none → v = none) (hlocks : meth.locks = false) {Qc : Option Value → Heap → List Loc → Prop} {k n : Nat} (hk : cells ≤ k) (hn : slots ≤ n) (hQ : Qc v T.heap locs) {U : State}
    (st : ∀ fs, (∀ (f : JFrame) (acts : List Action), f.method = m → f.locked = none → f.entered = [] → (doReturn e (T.setTop f) acts v).1 = T.setFrames fs) → Steps p.tables e below U (T.setFrames fs)) : own_Goes p e below U (own_PostN s Qc k n) := by
  obtain ⟨fs, hr, hrun, hended, hW, hsame⟩ := X.leave hv hlocks
  exact ⟨_, _, st fs hr, hrun, hended, _, _, rfl, hQ, ⟨_, rfl⟩, hW, hsame.mono hk hn⟩
theorem own_endW {vm0 : Vm} (X : Stand p l e R (s.setVm vm0) m args below meth c T locs cells slots) {q : Nat} (hS : s.Since vm0 q) (hq : q ≤ T.heap.size) {v : Option Value} (hv : meth.sig.returnType = none → v = none) (hlocks : meth.locks = false) {Qc : Option Value → Heap → List Loc → Prop} {k n : Nat} (hk : cells ≤ k) (hn : slots ≤ n) (hQ : Qc v T.heap locs) {U : State}
    (st : ∀ fs, (∀ (f : JFrame) (acts : List Action), f.method = m → f.locked = none → f.entered = [] → (doReturn e (T.setTop f) acts v).1 = T.setFrames fs) → Steps p.tables e below U (T.setFrames fs)) : own_Goes p e below U (own_PostW s Qc k n) := by
  obtain ⟨fs, hr, hrun, hended, h1, h2, h3, h4⟩ := X.leaveW hS hq hv hlocks
  exact ⟨_, _, st fs hr, hrun, hended, _, _, rfl, hQ, h1, h2, h3, h4.mono hk hn⟩
theorem own_ne {a b : Nat} (h : a < b ∨ b < a) : a ≠ b := by omega
theorem own_NSroot {Z : State} {a0 : Array Value} {O K : String} {n : Nat} (w : (Cond.noSuperclass O).before a0 Z = true) (wk : (Cond.instantiable K n).before a0 Z = true) (hn : O ≠ K) : NS Z O K := by
  obtain ⟨c, k, h1, h2, h3, -, -⟩ := Cond.noSuperclass_spec w
  obtain ⟨t, kt, g1, -⟩ := Cond.instantiable_spec wk
  have ne := ids_ne h1 g1 hn
  refine ⟨c, t, h1, g1, fun fuel => ?_⟩
  cases fuel with
  | zero => rfl
  | succ f => simp [Vm.isSubclassAux, ne, h2, h3]
theorem own_NSno {Z : State} {a0 : Array Value} {C S K : String} {m : Nat} (w : (Cond.superclass C S).before a0 Z = true) (wk : (Cond.instantiable K m).before a0 Z = true) (n : NS Z C K) (hn : C ≠ K) : ∃ c t, Z.vm.findClass C = some c ∧ Z.vm.findClass K = some t ∧ Z.vm.assignable c t = false := by
  obtain ⟨c, t, h0, g0, n3⟩ := n
  obtain ⟨p, k, kp, h1, h2, h3, h4, h5, -, h7⟩ := Cond.superclass_spec h0 w
  obtain ⟨t', k', g1, g2, g5, g7, -⟩ := Cond.instantiable_spec wk
  cases g0.symm.trans g1
  have g8 : k'.isInterface = false := (Bool.or_eq_false_iff.mp g7).1
  have ne := ids_ne h0 g0 hn
  refine ⟨c, t, h0, g0, ?_⟩
  show Z.vm.assignableAux (255 + 1) c t = false
  simp [Vm.assignableAux, ne, h2, g2, h5, g5, g8, Vm.isSubclass, n3]
theorem own_fitsR {v : Value} {t : FieldType} (h : v.isRef = true) (ht : t.isReference = true) : fits t v = true := by
  cases v <;> cases t <;> simp_all [Value.isRef, fits, FieldType.isReference]
theorem own_narR {v : Value} {t : FieldType} (h : v.isRef = true) (ht : t.isReference = true) : narrow t v = v := by
  cases v <;> cases t <;> simp_all [Value.isRef, narrow, FieldType.isReference]
end OwnKit
theorem own_sta {s : State} {args : Array Value} {C n d K : String} (h : (Cond.exactly (Term.static C n d) K).value args s none s [] = some true) (w1 : (Cond.initialized C).before args s = true) (w2 : (Cond.laysStatic C n d).before args s = true) : ∃ w, Sta s s.heap C n d (.ref w) ∧ Exa s s.heap w K := by
  obtain ⟨w, ev⟩ := exa_v h
  exact ⟨w, Sta.start ev (Or.inr ⟨w1, w2⟩), Exa.start ev h⟩
def GG (Z : State) (gz : Int32) : Prop := Sta Z Z.heap "java/lang/String" "COMPACT_STRINGS" "Z" (.int gz) ∧ ¬ gz = (0 : Int32)
theorem own_narM (x : Int32) : nar .char (x &&& (255 : Int32)) = (x &&& (255 : Int32)) := i2c_mask x
theorem own_ch255 (x : Int32) : ¬ (x &&& (255 : Int32)) < 0 ∧ ¬ (255 : Int32) < (x &&& (255 : Int32)) := by
  have q := c_and x 255 (by decide)
  have e0 : (0 : Int32).toInt = 0 := by decide
  have e1 : (255 : Int32).toInt = 255 := by decide
  rw [Int32.lt_iff_toInt_lt, Int32.lt_iff_toInt_lt]
  omega
theorem own_wV {Z : State} {a0 : Array Value} (hw : ∀ d ∈ tables_1, d.before a0 Z = true) : ∀ d ∈ StrChars.Road.words, d.before a0 Z = true := fun d hd => hw d ((by decide +kernel : ∀ d ∈ StrChars.Road.words, d ∈ tables_1) d hd)

def own_NS (Z : State) (h : Heap) (v : Value) : Prop := v = .null ∨ ∃ a, v = .ref a ∧ Exa Z h a "java/lang/String"
theorem own_NS.isRef {Z : State} {h : Heap} {v : Value} (N : own_NS Z h v) : v.isRef = true := by rcases N with rfl | ⟨a, rfl, -⟩ <;> rfl
theorem own_NS.ext {Z : State} {h h' : Heap} {v : Value} (N : own_NS Z h v) (E : Ext h h') : own_NS Z h' v := N.imp id fun ⟨a, q, F⟩ => ⟨a, q, F.ext E⟩
theorem own_NS.wr {Z : State} {h h' : Heap} {v w : Value} {a : Addr} {sl : Nat} (N : own_NS Z h v) (W : Wr h h' a sl w) : own_NS Z h' v := N.imp id fun ⟨a, q, F⟩ => ⟨a, q, F.wr W⟩
theorem own_NS.keep {Z : State} {h h' : Heap} {v : Value} {ws : List Addr} (N : own_NS Z h v) (K : Keep h h' ws) : own_NS Z h' v := N.imp id fun ⟨a, q, F⟩ => ⟨a, q, F.keep K⟩
theorem own_b01 {z : Int32} (h : z = 0 ∨ z = 1) : narrow .boolean (.int z) = .int z := by rcases h with rfl | rfl <;> rfl
theorem own_b01f {z : Int32} (h : z = 0 ∨ z = 1) : fits .boolean (.int z) = true := by rcases h with rfl | rfl <;> rfl
theorem own_01 {z : Int32} {P Q : Prop} (h : (z = 1 ∧ P) ∨ (z = 0 ∧ Q)) : z = 0 ∨ z = 1 := h.elim (fun q => Or.inr q.1) (fun q => Or.inl q.1)

theorem own_d1_0 : decode method_2_code 0 = .ok (.iload_n 1, 1) := by decide +kernel
theorem own_d1_1 : decode method_2_code 1 = .ok (.ifCond .eq 5, 3) := by decide +kernel
theorem own_d1_6 : decode method_2_code 6 = .ok (.iconst 2, 1) := by decide +kernel
theorem own_d1_7 : decode method_2_code 7 = .ok (.newarray .char, 2) := by decide +kernel
theorem own_d1_9 : decode method_2_code 9 = .ok (.astore_n 2, 1) := by decide +kernel
theorem own_d1_10 : decode method_2_code 10 = .ok (.aload_n 2, 1) := by decide +kernel
theorem own_d1_11 : decode method_2_code 11 = .ok (.iconst 0, 1) := by decide +kernel
theorem own_d1_12 : decode method_2_code 12 = .ok (.iload_n 0, 1) := by decide +kernel
theorem own_d1_13 : decode method_2_code 13 = .ok (.sipush 255, 3) := by decide +kernel
theorem own_d1_16 : decode method_2_code 16 = .ok (.iand, 1) := by decide +kernel
theorem own_d1_17 : decode method_2_code 17 = .ok (.i2c, 1) := by decide +kernel
theorem own_d1_18 : decode method_2_code 18 = .ok (.castore, 1) := by decide +kernel
theorem own_d1_19 : decode method_2_code 19 = .ok (.aload_n 2, 1) := by decide +kernel
theorem own_d1_20 : decode method_2_code 20 = .ok (.iconst 1, 1) := by decide +kernel
theorem own_d1_21 : decode method_2_code 21 = .ok (.iload_n 0, 1) := by decide +kernel
theorem own_d1_22 : decode method_2_code 22 = .ok (.bipush 8, 2) := by decide +kernel
theorem own_d1_24 : decode method_2_code 24 = .ok (.iushr, 1) := by decide +kernel
theorem own_d1_25 : decode method_2_code 25 = .ok (.sipush 255, 3) := by decide +kernel
theorem own_d1_28 : decode method_2_code 28 = .ok (.iand, 1) := by decide +kernel
theorem own_d1_29 : decode method_2_code 29 = .ok (.i2c, 1) := by decide +kernel
theorem own_d1_30 : decode method_2_code 30 = .ok (.castore, 1) := by decide +kernel
theorem own_d1_31 : decode method_2_code 31 = .ok (.new 7, 3) := by decide +kernel
theorem own_d1_34 : decode method_2_code 34 = .ok (.dup, 1) := by decide +kernel
theorem own_d1_35 : decode method_2_code 35 = .ok (.aload_n 2, 1) := by decide +kernel
theorem own_d1_36 : decode method_2_code 36 = .ok (.invokespecial 9, 3) := by decide +kernel
theorem own_pd_0 : parseMethodDescriptor "([C)V" = some ⟨[(.array .char)], none⟩ := by decide +kernel
theorem own_d1_39 : decode method_2_code 39 = .ok (.areturn, 1) := by decide +kernel
theorem own_d1_4 : decode method_2_code 4 = .ok (.aconst_null, 1) := by decide +kernel
theorem own_d1_5 : decode method_2_code 5 = .ok (.areturn, 1) := by decide +kernel
theorem own_pn_com_example_saasy_saasy_ledger_RenewalCancellingAPeriodPinLaw : plainName "com/example/saasy/saasy/ledger/RenewalCancellingAPeriodPinLaw" = true := by first | (simp [plainName, overriddenIn]; done) | decide +kernel
theorem own_ef_own_str (m : MethodId) (xi : Int32) (xb : Int32) : entryFrame m #[(.int xi), (.int xb)] 3 = mkF m 0 #[.val (.int xi), .val (.int xb), .unset] [] := by first | (simp [entryFrame, mkF, argsToLocals, Value.category]; done) | rfl
def Q_own_str (Z : State) (xi : Int32) (xb : Int32) (gz : Int32) (h0 : Heap) (n0 : Nat) (v : Option Value) (h : Heap) (L : List Loc) : Prop := Fr n0 L ∧ Keep h0 h [] ∧ ∃ (r : Value), v = some r ∧ own_NS Z h r
set_option maxRecDepth 65536 in
set_option maxHeartbeats 40000000 in
theorem own_str (l : Launch) (Z : State) (a0 : Array Value) (hw : ∀ d ∈ tables_1, d.before a0 Z = true) (ws : List Jvm.Cond) (xi : Int32) (xb : Int32) (h0 : Heap) (n0 : Nat) (O0 : Old Z n0 h0) (gz : Int32) (G : GG Z gz) :
    MetFree l (⟨"com/example/saasy/saasy/ledger/RenewalCancellingAPeriodPinLaw", "str", "(IZ)Ljava/lang/String;"⟩ : MethodName) (head1 (Jvm.Cond.code (⟨"com/example/saasy/saasy/ledger/RenewalCancellingAPeriodPinLaw", "str", "(IZ)Ljava/lang/String;"⟩ : MethodName) method_2_code 3 (some (.object "java/lang/String")) :: ws) ({ frames := 4, cells := 3, slots := 8, locals := 66 } : Room)) (fun as_ U_ => as_ = #[(.int xi), (.int xb)] ∧ Z.Warmed39 U_.vm ∧ U_.heap = h0) (fun _ _ _ _ _ => True) (fun _ U_ o_ U2_ => ∃ v_ L_, o_ = .returned v_ ∧ Q_own_str Z xi xb gz h0 n0 v_ U2_.heap L_ ∧ FrameEnd U_ o_ U2_ L_ ({ frames := 4, cells := 3, slots := 8, locals := 66 } : Room).cells ({ frames := 4, cells := 3, slots := 8, locals := 66 } : Room).slots) := by
  refine MetFree.of_bodySF (plainFor_of_name own_pn_com_example_saasy_saasy_ledger_RenewalCancellingAPeriodPinLaw) hisR ?_
  intro p e s m args below meth c s₁ Bd hml0 hP hK
  obtain ⟨rfl, hZ, hh⟩ := hP
  have hx := Bd.exec
  have hby := Bd.bytes
  have hml : c.maxLocals = 3 := hml0
  have hown : s.vm.findClass "com/example/saasy/saasy/ledger/RenewalCancellingAPeriodPinLaw" = some m.cls := findClass_of_methodNamed Bd.named
  have hnm := (name_of_methodNamed Bd.named Bd.method).1
  have hlk : meth.locks = false := Bd.notSynchronized
  have hret := Bd.returns
  have X0 : Stand p l e ({ frames := 4, cells := 3, slots := 8, locals := 66 } : Room) s m #[(.int xi), (.int xb)] below meth c s₁ [] 0 0 := Stand.of_body Bd
  have e0 : s₁.heap = h0 := by rw [← hh, Bd.state]; rfl
  have N0 := Fr.nil n0
  have z0 : Z.heap.size = n0 := O0.1
  have z1 : n0 ≤ h0.size := z0 ▸ O0.2.1
  have K0 : Keep h0 h0 [] := Keep.refl _ _
  show own_Goes p e below (s₁.setTop (entryFrame m #[(.int xi), (.int xb)] 3)) (own_PostN s (Q_own_str Z xi xb gz h0 n0) ({ frames := 4, cells := 3, slots := 8, locals := 66 } : Room).cells ({ frames := 4, cells := 3, slots := 8, locals := 66 } : Room).slots)
  refine own_cast (own_ef_own_str m xi xb) ?_
  show own_Goes p e below (s₁.setTop (mkF m 0 #[.val (.int xi), .val (.int xb), .unset] [])) _
  obtain ⟨G0, G1⟩ := id G
  refine own_go (fun t_ k_ => XS.iloadN X0.here hx rfl (hb hby own_d1_0) rfl k_) ?_
  show own_Goes p e below (s₁.setTop (mkF m 1 #[.val (.int xi), .val (.int xb), .unset] [(.int xb)])) _
  by_cases hc1 : xb = (0 : Int32)
  · refine own_go (fun t_ k_ => XS.ifYes X0.here hx rfl (pc0 := 1) (pc' := 6) rfl (hb hby own_d1_1) rfl ((if0 _ _).trans (teq hc1).1) (by decide) (by decide) k_) ?_
    show own_Goes p e below (s₁.setTop (mkF m 6 #[.val (.int xi), .val (.int xb), .unset] [])) _
    refine own_go (fun t_ k_ => XS.iconst X0.here hx rfl (hb hby own_d1_6) k_) ?_
    show own_Goes p e below (s₁.setTop (mkF m 7 #[.val (.int xi), .val (.int xb), .unset] [(.int (2 : Int32))])) _
    obtain ⟨T2, h2, k2, X2, e2, E2, A2, st2⟩ := newP X0 hx hZ (hw _ (List.mem_of_getElem? (i := 4) rfl)) e0 (g := (mkF m 7 #[.val (.int xi), .val (.int xb), .unset] [(.int (2 : Int32))])) rfl (hb hby own_d1_7) rfl (by decide) (cap := 2) (by decide) (by decide) (by decide) (by decide)
    obtain ⟨b2, g2⟩ : ∃ z, z = h0.size := ⟨_, rfl⟩
    rw [← g2] at A2 st2
    refine own_go st2 ?_
    have O3 := O0.ext E2
    have sz4 : h0.size ≤ h2.size := E2.1
    have K5 := K0.ext E2
    have l2 : b2 < h2.size := A2.lt
    have V2 : Arv Z h2 b2 k2 .char (2 : Int32) [(.int (0 : Int32)), (.int (0 : Int32))] (.int (0 : Int32)) := (Arv.new A2 (by decide)).pad (pad_rep [] (.int (0 : Int32)) 2)
    show own_Goes p e below (T2.setTop (mkF m 9 #[.val (.int xi), .val (.int xb), .unset] [(.ref b2)])) _
    refine own_go (fun t_ k_ => XS.astoreN X2.here hx rfl (hb hby own_d1_9) rfl rfl (l' := #[.val (.int xi), .val (.int xb), .val (.ref b2)]) rfl k_) ?_
    show own_Goes p e below (T2.setTop (mkF m 10 #[.val (.int xi), .val (.int xb), .val (.ref b2)] [])) _
    refine own_go (fun t_ k_ => XS.aloadN X2.here hx rfl (hb hby own_d1_10) rfl rfl k_) ?_
    show own_Goes p e below (T2.setTop (mkF m 11 #[.val (.int xi), .val (.int xb), .val (.ref b2)] [(.ref b2)])) _
    refine own_go (fun t_ k_ => XS.iconst X2.here hx rfl (hb hby own_d1_11) k_) ?_
    show own_Goes p e below (T2.setTop (mkF m 12 #[.val (.int xi), .val (.int xb), .val (.ref b2)] [(.int (0 : Int32)), (.ref b2)])) _
    refine own_go (fun t_ k_ => XS.iloadN X2.here hx rfl (hb hby own_d1_12) rfl k_) ?_
    show own_Goes p e below (T2.setTop (mkF m 13 #[.val (.int xi), .val (.int xb), .val (.ref b2)] [(.int xi), (.int (0 : Int32)), (.ref b2)])) _
    refine own_go (fun t_ k_ => XS.sipush X2.here hx rfl (hb hby own_d1_13) k_) ?_
    show own_Goes p e below (T2.setTop (mkF m 16 #[.val (.int xi), .val (.int xb), .val (.ref b2)] [(.int (255 : Int32)), (.int xi), (.int (0 : Int32)), (.ref b2)])) _
    refine own_go (fun t_ k_ => XS.iand X2.here hx rfl (hb hby own_d1_16) rfl k_) ?_
    show own_Goes p e below (T2.setTop (mkF m 17 #[.val (.int xi), .val (.int xb), .val (.ref b2)] [(.int (xi &&& (255 : Int32))), (.int (0 : Int32)), (.ref b2)])) _
    refine own_go (fun t_ k_ => XS.i2c X2.here hx rfl (hb hby own_d1_17) rfl k_) ?_
    show own_Goes p e below (T2.setTop (mkF m 18 #[.val (.int xi), .val (.int xb), .val (.ref b2)] [(.int ((xi &&& (255 : Int32)).toUInt32.toUInt16.toUInt32.toInt32)), (.int (0 : Int32)), (.ref b2)])) _
    rw [i2c_mask]
    show own_Goes p e below (T2.setTop (mkF m 18 #[.val (.int xi), .val (.int xb), .val (.ref b2)] [(.int (xi &&& (255 : Int32))), (.int (0 : Int32)), (.ref b2)])) _
    obtain ⟨clu6, Aru6, qu6, Szu6, Ngu6, Hsu6, Gsu6⟩ := id V2
    have inu6 : ¬ ((0 : Int32) < 0 ∨ clu6.slots.size ≤ ((0 : Int32)).toNatClampNeg) := inb_of Szu6 ⟨by decide, by decide⟩
    obtain ⟨T7, h7, X7, e7, W7, st7⟩ := stC X2 hx hZ e2 Aru6 (j := (0 : Int32)) inu6 (g := (mkF m 18 #[.val (.int xi), .val (.int xb), .val (.ref b2)] [(.int (xi &&& (255 : Int32))), (.int (0 : Int32)), (.ref b2)])) rfl rfl (hb hby own_d1_18)
    refine own_go st7 ?_
    have V7 := Arv.set Aru6 qu6 Szu6 Ngu6 Hsu6 Gsu6 (fits_nar_char _) W7 0 rfl (Nat.le_of_ble_eq_true rfl)
    rw [own_narM] at V7
    have O8 := O3.wr W7 (show n0 ≤ b2 by omega)
    have sz9 : h7.size = h2.size := Wr.size W7
    have K10 := K5.wr W7 (Or.inr (show h0.size ≤ b2 by omega))
    have N7 := Fr.snoc X7 N0 (show n0 ≤ b2 by omega)
    have V7 : Arv Z h7 b2 k2 .char (2 : Int32) [(.int (xi &&& (255 : Int32))), (.int (0 : Int32))] (.int (0 : Int32)) := V7
    show own_Goes p e below (T7.setTop (mkF m 19 #[.val (.int xi), .val (.int xb), .val (.ref b2)] [])) _
    refine own_go (fun t_ k_ => XS.aloadN X7.here hx rfl (hb hby own_d1_19) rfl rfl k_) ?_
    show own_Goes p e below (T7.setTop (mkF m 20 #[.val (.int xi), .val (.int xb), .val (.ref b2)] [(.ref b2)])) _
    refine own_go (fun t_ k_ => XS.iconst X7.here hx rfl (hb hby own_d1_20) k_) ?_
    show own_Goes p e below (T7.setTop (mkF m 21 #[.val (.int xi), .val (.int xb), .val (.ref b2)] [(.int (1 : Int32)), (.ref b2)])) _
    refine own_go (fun t_ k_ => XS.iloadN X7.here hx rfl (hb hby own_d1_21) rfl k_) ?_
    show own_Goes p e below (T7.setTop (mkF m 22 #[.val (.int xi), .val (.int xb), .val (.ref b2)] [(.int xi), (.int (1 : Int32)), (.ref b2)])) _
    refine own_go (fun t_ k_ => XS.bipush X7.here hx rfl (hb hby own_d1_22) k_) ?_
    show own_Goes p e below (T7.setTop (mkF m 24 #[.val (.int xi), .val (.int xb), .val (.ref b2)] [(.int (8 : Int32)), (.int xi), (.int (1 : Int32)), (.ref b2)])) _
    refine own_go (fun t_ k_ => XS.iushr X7.here hx rfl (hb hby own_d1_24) rfl k_) ?_
    show own_Goes p e below (T7.setTop (mkF m 25 #[.val (.int xi), .val (.int xb), .val (.ref b2)] [(.int ((xi.toUInt32 >>> ((8 : Int32) &&& 31).toUInt32).toInt32)), (.int (1 : Int32)), (.ref b2)])) _
    refine own_go (fun t_ k_ => XS.sipush X7.here hx rfl (hb hby own_d1_25) k_) ?_
    show own_Goes p e below (T7.setTop (mkF m 28 #[.val (.int xi), .val (.int xb), .val (.ref b2)] [(.int (255 : Int32)), (.int ((xi.toUInt32 >>> ((8 : Int32) &&& 31).toUInt32).toInt32)), (.int (1 : Int32)), (.ref b2)])) _
    refine own_go (fun t_ k_ => XS.iand X7.here hx rfl (hb hby own_d1_28) rfl k_) ?_
    show own_Goes p e below (T7.setTop (mkF m 29 #[.val (.int xi), .val (.int xb), .val (.ref b2)] [(.int (((xi.toUInt32 >>> ((8 : Int32) &&& 31).toUInt32).toInt32) &&& (255 : Int32))), (.int (1 : Int32)), (.ref b2)])) _
    refine own_go (fun t_ k_ => XS.i2c X7.here hx rfl (hb hby own_d1_29) rfl k_) ?_
    show own_Goes p e below (T7.setTop (mkF m 30 #[.val (.int xi), .val (.int xb), .val (.ref b2)] [(.int ((((xi.toUInt32 >>> ((8 : Int32) &&& 31).toUInt32).toInt32) &&& (255 : Int32)).toUInt32.toUInt16.toUInt32.toInt32)), (.int (1 : Int32)), (.ref b2)])) _
    rw [i2c_mask]
    show own_Goes p e below (T7.setTop (mkF m 30 #[.val (.int xi), .val (.int xb), .val (.ref b2)] [(.int (((xi.toUInt32 >>> ((8 : Int32) &&& 31).toUInt32).toInt32) &&& (255 : Int32))), (.int (1 : Int32)), (.ref b2)])) _
    obtain ⟨clu11, Aru11, qu11, Szu11, Ngu11, Hsu11, Gsu11⟩ := id V7
    have inu11 : ¬ ((1 : Int32) < 0 ∨ clu11.slots.size ≤ ((1 : Int32)).toNatClampNeg) := inb_of Szu11 ⟨by decide, by decide⟩
    obtain ⟨T12, h12, X12, e12, W12, st12⟩ := stC X7 hx hZ e7 Aru11 (j := (1 : Int32)) inu11 (g := (mkF m 30 #[.val (.int xi), .val (.int xb), .val (.ref b2)] [(.int (((xi.toUInt32 >>> ((8 : Int32) &&& 31).toUInt32).toInt32) &&& (255 : Int32))), (.int (1 : Int32)), (.ref b2)])) rfl rfl (hb hby own_d1_30)
    refine own_go st12 ?_
    have V12 := Arv.set Aru11 qu11 Szu11 Ngu11 Hsu11 Gsu11 (fits_nar_char _) W12 1 rfl (Nat.le_of_ble_eq_true rfl)
    rw [own_narM] at V12
    have O13 := O8.wr W12 (show n0 ≤ b2 by omega)
    have sz14 : h12.size = h7.size := Wr.size W12
    have K15 := K10.wr W12 (Or.inr (show h0.size ≤ b2 by omega))
    have N12 := Fr.snoc X12 N7 (show n0 ≤ b2 by omega)
    have V12 : Arv Z h12 b2 k2 .char (2 : Int32) [(.int (xi &&& (255 : Int32))), (.int (((xi.toUInt32 >>> ((8 : Int32) &&& 31).toUInt32).toInt32) &&& (255 : Int32)))] (.int (0 : Int32)) := V12
    show own_Goes p e below (T12.setTop (mkF m 31 #[.val (.int xi), .val (.int xb), .val (.ref b2)] [])) _
    obtain ⟨T16, h16, X16, e16, E16, A16, D16, -, st16⟩ := newO X12 hx hZ hown (hw _ (List.mem_of_getElem? (i := 5) rfl)) (hw _ (List.mem_of_getElem? (i := 6) rfl)) (hw _ (List.mem_of_getElem? (i := 7) rfl)) e12 (g := (mkF m 31 #[.val (.int xi), .val (.int xb), .val (.ref b2)] [])) rfl (hb hby own_d1_31) (by decide) (by decide)
    obtain ⟨b16, g16⟩ : ∃ z, z = h12.size := ⟨_, rfl⟩
    rw [← g16] at A16 D16 st16
    refine own_go st16 ?_
    have O17 := O13.ext E16
    have sz18 : h12.size ≤ h16.size := E16.1
    have K19 := K15.ext E16
    have l16 : b16 < h16.size := A16.lt
    have F16_coder : Fld Z h16 b16 "java/lang/String" "coder" "B" (.int (0 : Int32)) := D16 (Or.inr (hw _ (List.mem_of_getElem? (i := 31) rfl))) (ty := .byte) (by decide)
    have F16_value : Fld Z h16 b16 "java/lang/String" "value" "[B" .null := D16 (Or.inr (hw _ (List.mem_of_getElem? (i := 33) rfl))) (ty := (.array .byte)) (by decide)
    show own_Goes p e below (T16.setTop (mkF m 34 #[.val (.int xi), .val (.int xb), .val (.ref b2)] [(.ref b16)])) _
    refine own_go (fun t_ k_ => XS.dup X16.here hx rfl (hb hby own_d1_34) rfl rfl k_) ?_
    show own_Goes p e below (T16.setTop (mkF m 35 #[.val (.int xi), .val (.int xb), .val (.ref b2)] [(.ref b16), (.ref b16)])) _
    refine own_go (fun t_ k_ => XS.aloadN X16.here hx rfl (hb hby own_d1_35) rfl rfl k_) ?_
    show own_Goes p e below (T16.setTop (mkF m 36 #[.val (.int xi), .val (.int xb), .val (.ref b2)] [(.ref b2), (.ref b16), (.ref b16)])) _
    have f20 := (V12.ext E16)
    have q21 := G0.ext O17.2
    have hp22 : ∀ c_ ∈ ([(xi &&& (255 : Int32)), (((xi.toUInt32 >>> ((8 : Int32) &&& 31).toUInt32).toInt32) &&& (255 : Int32))] : List Int32), ¬ c_ < 0 ∧ ¬ (255 : Int32) < c_ := by
      intro c_ hc_
      simp only [List.mem_cons, List.not_mem_nil, or_false] at hc_
      rcases hc_ with rfl | rfl
      · exact (own_ch255 _)
      · exact (own_ch255 _)
    obtain ⟨_, _, ⟨T23, L23, k23, n23⟩, -, X23, ⟨Lc23, hQ23, l23, y23, z23⟩, st23⟩ := X16.specialBack hx (y := (⟨"java/lang/String", "<init>", "([C)V"⟩ : MethodName)) rfl hown (mvT hZ (hw _ (List.mem_of_getElem? (i := 8) rfl))) (mvT hZ (hw _ (List.mem_of_getElem? (i := 9) rfl))) (mvT hZ (hw _ (List.mem_of_getElem? (i := 10) rfl))) (by decide) (StrChars.Road.backV (W := 1) hZ (own_wV hw) (kI := 4) (hw _ (List.mem_of_getElem? (i := 6) rfl)) (cs := ([(xi &&& (255 : Int32)), (((xi.toUInt32 >>> ((8 : Int32) &&& 31).toUInt32).toInt32) &&& (255 : Int32))] : List Int32)) (bs := ([(xi &&& (255 : Int32)), (((xi.toUInt32 >>> ((8 : Int32) &&& 31).toUInt32).toInt32) &&& (255 : Int32))] : List Int32).map (fun c => c.toInt8.toInt32)) (n := 2) (show n0 ≤ b16 by omega) (show n0 ≤ h16.size by omega) A16 F16_value F16_coder f20 q21 G1 rfl rfl (by decide) (by decide) hp22 rfl (by decide) (by decide)) (g := (mkF m 36 #[.val (.int xi), .val (.int xb), .val (.ref b2)] [(.ref b2), (.ref b16), (.ref b16)])) rfl (by rw [hml]; rfl) (Steps.refl _) (a := b16) (argsL := [(.ref b2)]) (rest := [(.ref b16)]) (lenOf own_pd_0 rfl) rfl (by show 2 * 0 + _ ≤ _; exact Nat.le_of_eq rfl) (hb hby own_d1_36) (fun _ _ => ⟨rfl, e16, (by decide : 2 + 1 ≤ _), (by decide : 6 + 2 ≤ _)⟩)
    dsimp only [Pt.U, Pt.locs, Pt.cells, Pt.slots] at X23 l23 y23 z23 st23 hQ23
    subst l23 y23 z23
    obtain ⟨h23, e23⟩ : ∃ z, T23.heap = z := ⟨_, rfl⟩
    rw [e23] at hQ23
    obtain ⟨rfl, Nc23, Kc23, Es23, Cs23, t23, kb23, ta23, tb23, tc23, Vs23, As23⟩ := hQ23
    have N23 := Fr.app N12 Nc23
    have O24 := O17.keep Kc23 (allS (show n0 ≤ b16 by omega) all0)
    have sz25 : h16.size ≤ h23.size := Kc23.1
    have K26 := Keep.trans K19 Kc23 (allS (Or.inr (show h0.size ≤ b16 by omega)) all0)
    have lt23 : t23 < h23.size := As23.lt
    have lx23 : b16 < h23.size := Es23.lt
    refine own_goS st23 ?_
    show own_Goes p e below (T23.setTop (mkF m 39 #[.val (.int xi), .val (.int xb), .val (.ref b2)] [(.ref b16)])) _
    refine own_endN X23 (v := (some (.ref b16))) (fun h => by rw [hret] at h; cases h) hlk (by decide) (by decide) ?_ (fun fs hr => retOut X23 hx hret rfl (Or.inr (Or.inr (Or.inr (Or.inr ⟨rfl, rfl, rfl⟩)))) (hb hby own_d1_39) hr)
    show Q_own_str Z xi xb gz h0 n0 _ T23.heap _
    rw [e23]
    exact ⟨N23, K26, (Value.ref b16), rfl, (Or.inr ⟨_, rfl, Es23⟩)⟩
  · refine own_go (fun t_ k_ => XS.ifNo X0.here hx rfl (hb hby own_d1_1) rfl ((if0 _ _).trans (feq hc1).1) k_) ?_
    show own_Goes p e below (s₁.setTop (mkF m 4 #[.val (.int xi), .val (.int xb), .unset] [])) _
    refine own_go (fun t_ k_ => XS.aconstNull X0.here hx rfl (hb hby own_d1_4) k_) ?_
    show own_Goes p e below (s₁.setTop (mkF m 5 #[.val (.int xi), .val (.int xb), .unset] [.null])) _
    refine own_endN X0 (v := (some .null)) (fun h => by rw [hret] at h; cases h) hlk (by decide) (by decide) ?_ (fun fs hr => retOut X0 hx hret rfl (Or.inr (Or.inr (Or.inr (Or.inr ⟨rfl, rfl, rfl⟩)))) (hb hby own_d1_5) hr)
    show Q_own_str Z xi xb gz h0 n0 _ s₁.heap _
    rw [e0]
    exact ⟨N0, K0, Value.null, rfl, (Or.inl rfl)⟩
theorem own_d9_0 : decode prog_15_method_2_code 0 = .ok (.aload_n 0, 1) := by decide +kernel
theorem own_d9_1 : decode prog_15_method_2_code 1 = .ok (.invokespecial 7, 3) := by decide +kernel
theorem own_d9_4 : decode prog_15_method_2_code 4 = .ok (.aload_n 0, 1) := by decide +kernel
theorem own_d9_5 : decode prog_15_method_2_code 5 = .ok (.aload_n 1, 1) := by decide +kernel
theorem own_d9_6 : decode prog_15_method_2_code 6 = .ok (.putfield 12, 3) := by decide +kernel
theorem own_d9_9 : decode prog_15_method_2_code 9 = .ok (.aload_n 0, 1) := by decide +kernel
theorem own_d9_10 : decode prog_15_method_2_code 10 = .ok (.aload_n 2, 1) := by decide +kernel
theorem own_d9_11 : decode prog_15_method_2_code 11 = .ok (.putfield 16, 3) := by decide +kernel
theorem own_d9_14 : decode prog_15_method_2_code 14 = .ok (.aload_n 0, 1) := by decide +kernel
theorem own_d9_15 : decode prog_15_method_2_code 15 = .ok (.aload_n 3, 1) := by decide +kernel
theorem own_d9_16 : decode prog_15_method_2_code 16 = .ok (.putfield 19, 3) := by decide +kernel
theorem own_d9_19 : decode prog_15_method_2_code 19 = .ok (.aload_n 0, 1) := by decide +kernel
theorem own_d9_20 : decode prog_15_method_2_code 20 = .ok (.iload 4, 2) := by decide +kernel
theorem own_d9_22 : decode prog_15_method_2_code 22 = .ok (.putfield 22, 3) := by decide +kernel
theorem own_d9_25 : decode prog_15_method_2_code 25 = .ok (.aload_n 0, 1) := by decide +kernel
theorem own_d9_26 : decode prog_15_method_2_code 26 = .ok (.iload 5, 2) := by decide +kernel
theorem own_d9_28 : decode prog_15_method_2_code 28 = .ok (.putfield 26, 3) := by decide +kernel
theorem own_d9_31 : decode prog_15_method_2_code 31 = .ok (.aload_n 0, 1) := by decide +kernel
theorem own_d9_32 : decode prog_15_method_2_code 32 = .ok (.aload 6, 2) := by decide +kernel
theorem own_d9_34 : decode prog_15_method_2_code 34 = .ok (.putfield 29, 3) := by decide +kernel
theorem own_d9_37 : decode prog_15_method_2_code 37 = .ok (.return_, 1) := by decide +kernel
theorem own_pn_com_example_saasy_saasy_ledger_Renewal : plainName "com/example/saasy/saasy/ledger/Renewal" = true := by first | (simp [plainName, overriddenIn]; done) | decide +kernel
theorem own_ef_own_rn6_0 (m : MethodId) (xa : Addr) (x1 : Value) (x2 : Value) (x3 : Value) (xt : Int32) (hr_x1 : x1.isRef = true) (hr_x2 : x2.isRef = true) (hr_x3 : x3.isRef = true) : entryFrame m #[(.ref xa), x1, x2, x3, (.int xt), (.int (0 : Int32)), .null] 7 = mkF m 0 #[.val (.ref xa), .val x1, .val x2, .val x3, .val (.int xt), .val (.int (0 : Int32)), .val .null] [] := by rcases ref_cases hr_x1 with rfl | ⟨_, rfl⟩ <;> rcases ref_cases hr_x2 with rfl | ⟨_, rfl⟩ <;> rcases ref_cases hr_x3 with rfl | ⟨_, rfl⟩ <;> first | (simp [entryFrame, mkF, argsToLocals, Value.category]; done) | rfl
def Q_own_rn6_0 (Z : State) (xa : Addr) (x1 : Value) (x2 : Value) (x3 : Value) (xt : Int32) (h0 : Heap) (n0 : Nat) (v : Option Value) (h : Heap) (L : List Loc) : Prop := Fr n0 L ∧ Keep h0 h [xa] ∧ v = none ∧ Fld Z h xa "com/example/saasy/saasy/ledger/Renewal" "orderId" "Ljava/lang/String;" x1 ∧ Fld Z h xa "com/example/saasy/saasy/ledger/Renewal" "expireTime" "Ljava/lang/String;" x2 ∧ Fld Z h xa "com/example/saasy/saasy/ledger/Renewal" "productId" "Ljava/lang/String;" x3 ∧ Fld Z h xa "com/example/saasy/saasy/ledger/Renewal" "endsTrial" "Z" (.int xt) ∧ Fld Z h xa "com/example/saasy/saasy/ledger/Renewal" "cancelsAPeriod" "Z" (.int (0 : Int32)) ∧ Fld Z h xa "com/example/saasy/saasy/ledger/Renewal" "unfreezesOnlyAfter" "Ljava/time/Instant;" .null
set_option maxRecDepth 65536 in
set_option maxHeartbeats 40000000 in
theorem own_rn6_0 (l : Launch) (Z : State) (a0 : Array Value) (hw : ∀ d ∈ tables_1, d.before a0 Z = true) (ws : List Jvm.Cond) (xa : Addr) (x1 : Value) (x2 : Value) (x3 : Value) (xt : Int32) (h0 : Heap) (n0 : Nat) (O0 : Old Z n0 h0) (P0 : Exa Z h0 xa "com/example/saasy/saasy/ledger/Renewal") (P1 : Fld Z h0 xa "com/example/saasy/saasy/ledger/Renewal" "orderId" "Ljava/lang/String;" .null) (P2 : Fld Z h0 xa "com/example/saasy/saasy/ledger/Renewal" "expireTime" "Ljava/lang/String;" .null) (P3 : Fld Z h0 xa "com/example/saasy/saasy/ledger/Renewal" "productId" "Ljava/lang/String;" .null) (P4 : Fld Z h0 xa "com/example/saasy/saasy/ledger/Renewal" "endsTrial" "Z" (.int (0 : Int32))) (P5 : Fld Z h0 xa "com/example/saasy/saasy/ledger/Renewal" "cancelsAPeriod" "Z" (.int (0 : Int32))) (P6 : Fld Z h0 xa "com/example/saasy/saasy/ledger/Renewal" "unfreezesOnlyAfter" "Ljava/time/Instant;" .null) (P7 : x1.isRef = true) (P8 : x2.isRef = true) (P9 : x3.isRef = true) (P10 : n0 ≤ xa) (P11 : xt = 0 ∨ xt = 1) :
    MetFree l (⟨"com/example/saasy/saasy/ledger/Renewal", "<init>", "(Ljava/lang/String;Ljava/lang/String;Ljava/lang/String;ZZLjava/time/Instant;)V"⟩ : MethodName) (head1 (Jvm.Cond.code (⟨"com/example/saasy/saasy/ledger/Renewal", "<init>", "(Ljava/lang/String;Ljava/lang/String;Ljava/lang/String;ZZLjava/time/Instant;)V"⟩ : MethodName) prog_15_method_2_code 7 none :: ws) ({ frames := 1, cells := 0, slots := 0, locals := 12 } : Room)) (fun as_ U_ => as_ = #[(.ref xa), x1, x2, x3, (.int xt), (.int (0 : Int32)), .null] ∧ Z.Warmed39 U_.vm ∧ U_.heap = h0) (fun _ _ _ _ _ => True) (fun _ U_ o_ U2_ => ∃ v_ L_, o_ = .returned v_ ∧ Q_own_rn6_0 Z xa x1 x2 x3 xt h0 n0 v_ U2_.heap L_ ∧ FrameEnd U_ o_ U2_ L_ ({ frames := 1, cells := 0, slots := 0, locals := 12 } : Room).cells ({ frames := 1, cells := 0, slots := 0, locals := 12 } : Room).slots) := by
  refine MetFree.of_bodySF (plainFor_of_name own_pn_com_example_saasy_saasy_ledger_Renewal) hisR ?_
  intro p e s m args below meth c s₁ Bd hml0 hP hK
  obtain ⟨rfl, hZ, hh⟩ := hP
  have hx := Bd.exec
  have hby := Bd.bytes
  have hml : c.maxLocals = 7 := hml0
  have hown : s.vm.findClass "com/example/saasy/saasy/ledger/Renewal" = some m.cls := findClass_of_methodNamed Bd.named
  have hnm := (name_of_methodNamed Bd.named Bd.method).1
  have hlk : meth.locks = false := Bd.notSynchronized
  have hret := Bd.returns
  have X0 : Stand p l e ({ frames := 1, cells := 0, slots := 0, locals := 12 } : Room) s m #[(.ref xa), x1, x2, x3, (.int xt), (.int (0 : Int32)), .null] below meth c s₁ [] 0 0 := Stand.of_body Bd
  have e0 : s₁.heap = h0 := by rw [← hh, Bd.state]; rfl
  have N0 := Fr.nil n0
  have z0 : Z.heap.size = n0 := O0.1
  have z1 : n0 ≤ h0.size := z0 ▸ O0.2.1
  have K0 : Keep h0 h0 [xa] := Keep.refl _ _
  show own_Goes p e below (s₁.setTop (entryFrame m #[(.ref xa), x1, x2, x3, (.int xt), (.int (0 : Int32)), .null] 7)) (own_PostN s (Q_own_rn6_0 Z xa x1 x2 x3 xt h0 n0) ({ frames := 1, cells := 0, slots := 0, locals := 12 } : Room).cells ({ frames := 1, cells := 0, slots := 0, locals := 12 } : Room).slots)
  refine own_cast (own_ef_own_rn6_0 m xa x1 x2 x3 xt P7 P8 P9) ?_
  show own_Goes p e below (s₁.setTop (mkF m 0 #[.val (.ref xa), .val x1, .val x2, .val x3, .val (.int xt), .val (.int (0 : Int32)), .val .null] [])) _
  have ltP0 : xa < h0.size := P0.lt
  refine own_go (fun t_ k_ => XS.aloadN X0.here hx rfl (hb hby own_d9_0) rfl rfl k_) ?_
  show own_Goes p e below (s₁.setTop (mkF m 1 #[.val (.ref xa), .val x1, .val x2, .val x3, .val (.int xt), .val (.int (0 : Int32)), .val .null] [(.ref xa)])) _
  obtain ⟨T1, X1, e1, st1⟩ := initO X0 hx hZ hown (hw _ (List.mem_of_getElem? (i := 43) rfl)) (hw _ (List.mem_of_getElem? (i := 16) rfl)) (hw _ (List.mem_of_getElem? (i := 17) rfl)) e0 (g := (mkF m 1 #[.val (.ref xa), .val x1, .val x2, .val x3, .val (.int xt), .val (.int (0 : Int32)), .val .null] [(.ref xa)])) rfl (by rw [hml]; rfl) rfl (hb hby own_d9_1) (by decide) (W := 0) (by show 2 * 0 + _ ≤ _; exact Nat.le_of_eq rfl) (by decide)
  refine own_go st1 ?_
  show own_Goes p e below (T1.setTop (mkF m 4 #[.val (.ref xa), .val x1, .val x2, .val x3, .val (.int xt), .val (.int (0 : Int32)), .val .null] [])) _
  refine own_go (fun t_ k_ => XS.aloadN X1.here hx rfl (hb hby own_d9_4) rfl rfl k_) ?_
  show own_Goes p e below (T1.setTop (mkF m 5 #[.val (.ref xa), .val x1, .val x2, .val x3, .val (.int xt), .val (.int (0 : Int32)), .val .null] [(.ref xa)])) _
  refine own_go (fun t_ k_ => XS.aloadN X1.here hx rfl (hb hby own_d9_5) rfl P7 k_) ?_
  show own_Goes p e below (T1.setTop (mkF m 6 #[.val (.ref xa), .val x1, .val x2, .val x3, .val (.int xt), .val (.int (0 : Int32)), .val .null] [x1, (.ref xa)])) _
  obtain ⟨T2, h2, X2, e2, W2, st2⟩ := putF X1 hx hZ hown (host := "") (Or.inl (hw _ (List.mem_of_getElem? (i := 44) rfl))) Via.refl e1 P1 P0 (Or.inr ⟨(hw _ (List.mem_of_getElem? (i := 45) rfl)), rfl, hnm⟩) (hw _ (List.mem_of_getElem? (i := 35) rfl)) (ty := (.object "java/lang/String")) (by decide) (own_narR P7 rfl) (own_fitsR P7 rfl) (g := (mkF m 6 #[.val (.ref xa), .val x1, .val x2, .val x3, .val (.int xt), .val (.int (0 : Int32)), .val .null] [x1, (.ref xa)])) rfl rfl (hb hby own_d9_6)
  refine own_go st2 ?_
  have O3 := O0.wr W2 (show n0 ≤ xa by omega)
  have sz4 : h2.size = h0.size := Wr.size W2
  have K5 := K0.wr W2 (Or.inl (List.mem_of_getElem? (i := 0) rfl))
  have N2 := Fr.snoc X2 N0 (show n0 ≤ xa by omega)
  have Fw2 := P1.same W2
  show own_Goes p e below (T2.setTop (mkF m 9 #[.val (.ref xa), .val x1, .val x2, .val x3, .val (.int xt), .val (.int (0 : Int32)), .val .null] [])) _
  refine own_go (fun t_ k_ => XS.aloadN X2.here hx rfl (hb hby own_d9_9) rfl rfl k_) ?_
  show own_Goes p e below (T2.setTop (mkF m 10 #[.val (.ref xa), .val x1, .val x2, .val x3, .val (.int xt), .val (.int (0 : Int32)), .val .null] [(.ref xa)])) _
  refine own_go (fun t_ k_ => XS.aloadN X2.here hx rfl (hb hby own_d9_10) rfl P8 k_) ?_
  show own_Goes p e below (T2.setTop (mkF m 11 #[.val (.ref xa), .val x1, .val x2, .val x3, .val (.int xt), .val (.int (0 : Int32)), .val .null] [x2, (.ref xa)])) _
  have f6 := (P2.other W2 (Or.inr (slot_ne (Or.inr (hw _ (List.mem_of_getElem? (i := 47) rfl))) (Or.inr (hw _ (List.mem_of_getElem? (i := 45) rfl))) (by decide) (t := (.object "java/lang/String")) (t' := (.object "java/lang/String")) (by decide) (by decide))))
  have f7 := (P0.wr W2)
  obtain ⟨T8, h8, X8, e8, W8, st8⟩ := putF X2 hx hZ hown (host := "") (Or.inl (hw _ (List.mem_of_getElem? (i := 46) rfl))) Via.refl e2 f6 f7 (Or.inr ⟨(hw _ (List.mem_of_getElem? (i := 47) rfl)), rfl, hnm⟩) (hw _ (List.mem_of_getElem? (i := 35) rfl)) (ty := (.object "java/lang/String")) (by decide) (own_narR P8 rfl) (own_fitsR P8 rfl) (g := (mkF m 11 #[.val (.ref xa), .val x1, .val x2, .val x3, .val (.int xt), .val (.int (0 : Int32)), .val .null] [x2, (.ref xa)])) rfl rfl (hb hby own_d9_11)
  refine own_go st8 ?_
  have O9 := O3.wr W8 (show n0 ≤ xa by omega)
  have sz10 : h8.size = h2.size := Wr.size W8
  have K11 := K5.wr W8 (Or.inl (List.mem_of_getElem? (i := 0) rfl))
  have N8 := Fr.snoc X8 N2 (show n0 ≤ xa by omega)
  have Fw8 := f6.same W8
  show own_Goes p e below (T8.setTop (mkF m 14 #[.val (.ref xa), .val x1, .val x2, .val x3, .val (.int xt), .val (.int (0 : Int32)), .val .null] [])) _
  refine own_go (fun t_ k_ => XS.aloadN X8.here hx rfl (hb hby own_d9_14) rfl rfl k_) ?_
  show own_Goes p e below (T8.setTop (mkF m 15 #[.val (.ref xa), .val x1, .val x2, .val x3, .val (.int xt), .val (.int (0 : Int32)), .val .null] [(.ref xa)])) _
  refine own_go (fun t_ k_ => XS.aloadN X8.here hx rfl (hb hby own_d9_15) rfl P9 k_) ?_
  show own_Goes p e below (T8.setTop (mkF m 16 #[.val (.ref xa), .val x1, .val x2, .val x3, .val (.int xt), .val (.int (0 : Int32)), .val .null] [x3, (.ref xa)])) _
  have f12 := ((P3.other W2 (Or.inr (slot_ne (Or.inr (hw _ (List.mem_of_getElem? (i := 49) rfl))) (Or.inr (hw _ (List.mem_of_getElem? (i := 45) rfl))) (by decide) (t := (.object "java/lang/String")) (t' := (.object "java/lang/String")) (by decide) (by decide)))).other W8 (Or.inr (slot_ne (Or.inr (hw _ (List.mem_of_getElem? (i := 49) rfl))) (Or.inr (hw _ (List.mem_of_getElem? (i := 47) rfl))) (by decide) (t := (.object "java/lang/String")) (t' := (.object "java/lang/String")) (by decide) (by decide))))
  have f13 := (f7.wr W8)
  obtain ⟨T14, h14, X14, e14, W14, st14⟩ := putF X8 hx hZ hown (host := "") (Or.inl (hw _ (List.mem_of_getElem? (i := 48) rfl))) Via.refl e8 f12 f13 (Or.inr ⟨(hw _ (List.mem_of_getElem? (i := 49) rfl)), rfl, hnm⟩) (hw _ (List.mem_of_getElem? (i := 35) rfl)) (ty := (.object "java/lang/String")) (by decide) (own_narR P9 rfl) (own_fitsR P9 rfl) (g := (mkF m 16 #[.val (.ref xa), .val x1, .val x2, .val x3, .val (.int xt), .val (.int (0 : Int32)), .val .null] [x3, (.ref xa)])) rfl rfl (hb hby own_d9_16)
  refine own_go st14 ?_
  have O15 := O9.wr W14 (show n0 ≤ xa by omega)
  have sz16 : h14.size = h8.size := Wr.size W14
  have K17 := K11.wr W14 (Or.inl (List.mem_of_getElem? (i := 0) rfl))
  have N14 := Fr.snoc X14 N8 (show n0 ≤ xa by omega)
  have Fw14 := f12.same W14
  show own_Goes p e below (T14.setTop (mkF m 19 #[.val (.ref xa), .val x1, .val x2, .val x3, .val (.int xt), .val (.int (0 : Int32)), .val .null] [])) _
  refine own_go (fun t_ k_ => XS.aloadN X14.here hx rfl (hb hby own_d9_19) rfl rfl k_) ?_
  show own_Goes p e below (T14.setTop (mkF m 20 #[.val (.ref xa), .val x1, .val x2, .val x3, .val (.int xt), .val (.int (0 : Int32)), .val .null] [(.ref xa)])) _
  refine own_go (fun t_ k_ => XS.iload X14.here hx rfl (hb hby own_d9_20) rfl k_) ?_
  show own_Goes p e below (T14.setTop (mkF m 22 #[.val (.ref xa), .val x1, .val x2, .val x3, .val (.int xt), .val (.int (0 : Int32)), .val .null] [(.int xt), (.ref xa)])) _
  have f18 := (((P4.other W2 (Or.inr (slot_ne (Or.inr (hw _ (List.mem_of_getElem? (i := 51) rfl))) (Or.inr (hw _ (List.mem_of_getElem? (i := 45) rfl))) (by decide) (t := .boolean) (t' := (.object "java/lang/String")) (by decide) (by decide)))).other W8 (Or.inr (slot_ne (Or.inr (hw _ (List.mem_of_getElem? (i := 51) rfl))) (Or.inr (hw _ (List.mem_of_getElem? (i := 47) rfl))) (by decide) (t := .boolean) (t' := (.object "java/lang/String")) (by decide) (by decide)))).other W14 (Or.inr (slot_ne (Or.inr (hw _ (List.mem_of_getElem? (i := 51) rfl))) (Or.inr (hw _ (List.mem_of_getElem? (i := 49) rfl))) (by decide) (t := .boolean) (t' := (.object "java/lang/String")) (by decide) (by decide))))
  have f19 := (f13.wr W14)
  obtain ⟨T20, h20, X20, e20, W20, st20⟩ := putFN X14 hx hZ hown (hw _ (List.mem_of_getElem? (i := 50) rfl)) Via.refl e14 f18 f19 (Or.inr ⟨(hw _ (List.mem_of_getElem? (i := 51) rfl)), rfl, hnm⟩) (hw _ (List.mem_of_getElem? (i := 35) rfl)) (ty := .boolean) (v' := (.int xt)) (by decide) (own_b01 P11) (own_b01f P11) (g := (mkF m 22 #[.val (.ref xa), .val x1, .val x2, .val x3, .val (.int xt), .val (.int (0 : Int32)), .val .null] [(.int xt), (.ref xa)])) rfl rfl (hb hby own_d9_22)
  refine own_go st20 ?_
  have O21 := O15.wr W20 (show n0 ≤ xa by omega)
  have sz22 : h20.size = h14.size := Wr.size W20
  have K23 := K17.wr W20 (Or.inl (List.mem_of_getElem? (i := 0) rfl))
  have N20 := Fr.snoc X20 N14 (show n0 ≤ xa by omega)
  have Fw20 := f18.same W20
  show own_Goes p e below (T20.setTop (mkF m 25 #[.val (.ref xa), .val x1, .val x2, .val x3, .val (.int xt), .val (.int (0 : Int32)), .val .null] [])) _
  refine own_go (fun t_ k_ => XS.aloadN X20.here hx rfl (hb hby own_d9_25) rfl rfl k_) ?_
  show own_Goes p e below (T20.setTop (mkF m 26 #[.val (.ref xa), .val x1, .val x2, .val x3, .val (.int xt), .val (.int (0 : Int32)), .val .null] [(.ref xa)])) _
  refine own_go (fun t_ k_ => XS.iload X20.here hx rfl (hb hby own_d9_26) rfl k_) ?_
  show own_Goes p e below (T20.setTop (mkF m 28 #[.val (.ref xa), .val x1, .val x2, .val x3, .val (.int xt), .val (.int (0 : Int32)), .val .null] [(.int (0 : Int32)), (.ref xa)])) _
  have f24 := ((((P5.other W2 (Or.inr (slot_ne (Or.inr (hw _ (List.mem_of_getElem? (i := 53) rfl))) (Or.inr (hw _ (List.mem_of_getElem? (i := 45) rfl))) (by decide) (t := .boolean) (t' := (.object "java/lang/String")) (by decide) (by decide)))).other W8 (Or.inr (slot_ne (Or.inr (hw _ (List.mem_of_getElem? (i := 53) rfl))) (Or.inr (hw _ (List.mem_of_getElem? (i := 47) rfl))) (by decide) (t := .boolean) (t' := (.object "java/lang/String")) (by decide) (by decide)))).other W14 (Or.inr (slot_ne (Or.inr (hw _ (List.mem_of_getElem? (i := 53) rfl))) (Or.inr (hw _ (List.mem_of_getElem? (i := 49) rfl))) (by decide) (t := .boolean) (t' := (.object "java/lang/String")) (by decide) (by decide)))).other W20 (Or.inr (slot_ne (Or.inr (hw _ (List.mem_of_getElem? (i := 53) rfl))) (Or.inr (hw _ (List.mem_of_getElem? (i := 51) rfl))) (by decide) (t := .boolean) (t' := .boolean) (by decide) (by decide))))
  have f25 := (f19.wr W20)
  obtain ⟨T26, h26, X26, e26, W26, st26⟩ := putFN X20 hx hZ hown (hw _ (List.mem_of_getElem? (i := 52) rfl)) Via.refl e20 f24 f25 (Or.inr ⟨(hw _ (List.mem_of_getElem? (i := 53) rfl)), rfl, hnm⟩) (hw _ (List.mem_of_getElem? (i := 35) rfl)) (ty := .boolean) (v' := (.int (0 : Int32))) (by decide) rfl rfl (g := (mkF m 28 #[.val (.ref xa), .val x1, .val x2, .val x3, .val (.int xt), .val (.int (0 : Int32)), .val .null] [(.int (0 : Int32)), (.ref xa)])) rfl rfl (hb hby own_d9_28)
  refine own_go st26 ?_
  have O27 := O21.wr W26 (show n0 ≤ xa by omega)
  have sz28 : h26.size = h20.size := Wr.size W26
  have K29 := K23.wr W26 (Or.inl (List.mem_of_getElem? (i := 0) rfl))
  have N26 := Fr.snoc X26 N20 (show n0 ≤ xa by omega)
  have Fw26 := f24.same W26
  show own_Goes p e below (T26.setTop (mkF m 31 #[.val (.ref xa), .val x1, .val x2, .val x3, .val (.int xt), .val (.int (0 : Int32)), .val .null] [])) _
  refine own_go (fun t_ k_ => XS.aloadN X26.here hx rfl (hb hby own_d9_31) rfl rfl k_) ?_
  show own_Goes p e below (T26.setTop (mkF m 32 #[.val (.ref xa), .val x1, .val x2, .val x3, .val (.int xt), .val (.int (0 : Int32)), .val .null] [(.ref xa)])) _
  refine own_go (fun t_ k_ => XS.aload X26.here hx rfl (hb hby own_d9_32) rfl rfl k_) ?_
  show own_Goes p e below (T26.setTop (mkF m 34 #[.val (.ref xa), .val x1, .val x2, .val x3, .val (.int xt), .val (.int (0 : Int32)), .val .null] [.null, (.ref xa)])) _
  have f30 := (((((P6.other W2 (Or.inr (slot_ne (Or.inr (hw _ (List.mem_of_getElem? (i := 55) rfl))) (Or.inr (hw _ (List.mem_of_getElem? (i := 45) rfl))) (by decide) (t := (.object "java/time/Instant")) (t' := (.object "java/lang/String")) (by decide) (by decide)))).other W8 (Or.inr (slot_ne (Or.inr (hw _ (List.mem_of_getElem? (i := 55) rfl))) (Or.inr (hw _ (List.mem_of_getElem? (i := 47) rfl))) (by decide) (t := (.object "java/time/Instant")) (t' := (.object "java/lang/String")) (by decide) (by decide)))).other W14 (Or.inr (slot_ne (Or.inr (hw _ (List.mem_of_getElem? (i := 55) rfl))) (Or.inr (hw _ (List.mem_of_getElem? (i := 49) rfl))) (by decide) (t := (.object "java/time/Instant")) (t' := (.object "java/lang/String")) (by decide) (by decide)))).other W20 (Or.inr (slot_ne (Or.inr (hw _ (List.mem_of_getElem? (i := 55) rfl))) (Or.inr (hw _ (List.mem_of_getElem? (i := 51) rfl))) (by decide) (t := (.object "java/time/Instant")) (t' := .boolean) (by decide) (by decide)))).other W26 (Or.inr (slot_ne (Or.inr (hw _ (List.mem_of_getElem? (i := 55) rfl))) (Or.inr (hw _ (List.mem_of_getElem? (i := 53) rfl))) (by decide) (t := (.object "java/time/Instant")) (t' := .boolean) (by decide) (by decide))))
  have f31 := (f25.wr W26)
  obtain ⟨T32, h32, X32, e32, W32, st32⟩ := putF X26 hx hZ hown (host := "") (Or.inl (hw _ (List.mem_of_getElem? (i := 54) rfl))) Via.refl e26 f30 f31 (Or.inr ⟨(hw _ (List.mem_of_getElem? (i := 55) rfl)), rfl, hnm⟩) (hw _ (List.mem_of_getElem? (i := 35) rfl)) (ty := (.object "java/time/Instant")) (by decide) rfl rfl (g := (mkF m 34 #[.val (.ref xa), .val x1, .val x2, .val x3, .val (.int xt), .val (.int (0 : Int32)), .val .null] [.null, (.ref xa)])) rfl rfl (hb hby own_d9_34)
  refine own_go st32 ?_
  have O33 := O27.wr W32 (show n0 ≤ xa by omega)
  have sz34 : h32.size = h26.size := Wr.size W32
  have K35 := K29.wr W32 (Or.inl (List.mem_of_getElem? (i := 0) rfl))
  have N32 := Fr.snoc X32 N26 (show n0 ≤ xa by omega)
  have Fw32 := f30.same W32
  show own_Goes p e below (T32.setTop (mkF m 37 #[.val (.ref xa), .val x1, .val x2, .val x3, .val (.int xt), .val (.int (0 : Int32)), .val .null] [])) _
  refine own_endN X32 (v := none) (fun _ => rfl) hlk (by decide) (by decide) ?_ (fun fs hr => X32.returnOut hx hret (hb hby own_d9_37) hr)
  show Q_own_rn6_0 Z xa x1 x2 x3 xt h0 n0 _ T32.heap _
  rw [e32]
  have f36 := (((((Fw2.other W8 (Or.inr (slot_ne (Or.inr (hw _ (List.mem_of_getElem? (i := 45) rfl))) (Or.inr (hw _ (List.mem_of_getElem? (i := 47) rfl))) (by decide) (t := (.object "java/lang/String")) (t' := (.object "java/lang/String")) (by decide) (by decide)))).other W14 (Or.inr (slot_ne (Or.inr (hw _ (List.mem_of_getElem? (i := 45) rfl))) (Or.inr (hw _ (List.mem_of_getElem? (i := 49) rfl))) (by decide) (t := (.object "java/lang/String")) (t' := (.object "java/lang/String")) (by decide) (by decide)))).other W20 (Or.inr (slot_ne (Or.inr (hw _ (List.mem_of_getElem? (i := 45) rfl))) (Or.inr (hw _ (List.mem_of_getElem? (i := 51) rfl))) (by decide) (t := (.object "java/lang/String")) (t' := .boolean) (by decide) (by decide)))).other W26 (Or.inr (slot_ne (Or.inr (hw _ (List.mem_of_getElem? (i := 45) rfl))) (Or.inr (hw _ (List.mem_of_getElem? (i := 53) rfl))) (by decide) (t := (.object "java/lang/String")) (t' := .boolean) (by decide) (by decide)))).other W32 (Or.inr (slot_ne (Or.inr (hw _ (List.mem_of_getElem? (i := 45) rfl))) (Or.inr (hw _ (List.mem_of_getElem? (i := 55) rfl))) (by decide) (t := (.object "java/lang/String")) (t' := (.object "java/time/Instant")) (by decide) (by decide))))
  have f37 := ((((Fw8.other W14 (Or.inr (slot_ne (Or.inr (hw _ (List.mem_of_getElem? (i := 47) rfl))) (Or.inr (hw _ (List.mem_of_getElem? (i := 49) rfl))) (by decide) (t := (.object "java/lang/String")) (t' := (.object "java/lang/String")) (by decide) (by decide)))).other W20 (Or.inr (slot_ne (Or.inr (hw _ (List.mem_of_getElem? (i := 47) rfl))) (Or.inr (hw _ (List.mem_of_getElem? (i := 51) rfl))) (by decide) (t := (.object "java/lang/String")) (t' := .boolean) (by decide) (by decide)))).other W26 (Or.inr (slot_ne (Or.inr (hw _ (List.mem_of_getElem? (i := 47) rfl))) (Or.inr (hw _ (List.mem_of_getElem? (i := 53) rfl))) (by decide) (t := (.object "java/lang/String")) (t' := .boolean) (by decide) (by decide)))).other W32 (Or.inr (slot_ne (Or.inr (hw _ (List.mem_of_getElem? (i := 47) rfl))) (Or.inr (hw _ (List.mem_of_getElem? (i := 55) rfl))) (by decide) (t := (.object "java/lang/String")) (t' := (.object "java/time/Instant")) (by decide) (by decide))))
  have f38 := (((Fw14.other W20 (Or.inr (slot_ne (Or.inr (hw _ (List.mem_of_getElem? (i := 49) rfl))) (Or.inr (hw _ (List.mem_of_getElem? (i := 51) rfl))) (by decide) (t := (.object "java/lang/String")) (t' := .boolean) (by decide) (by decide)))).other W26 (Or.inr (slot_ne (Or.inr (hw _ (List.mem_of_getElem? (i := 49) rfl))) (Or.inr (hw _ (List.mem_of_getElem? (i := 53) rfl))) (by decide) (t := (.object "java/lang/String")) (t' := .boolean) (by decide) (by decide)))).other W32 (Or.inr (slot_ne (Or.inr (hw _ (List.mem_of_getElem? (i := 49) rfl))) (Or.inr (hw _ (List.mem_of_getElem? (i := 55) rfl))) (by decide) (t := (.object "java/lang/String")) (t' := (.object "java/time/Instant")) (by decide) (by decide))))
  have f39 := ((Fw20.other W26 (Or.inr (slot_ne (Or.inr (hw _ (List.mem_of_getElem? (i := 51) rfl))) (Or.inr (hw _ (List.mem_of_getElem? (i := 53) rfl))) (by decide) (t := .boolean) (t' := .boolean) (by decide) (by decide)))).other W32 (Or.inr (slot_ne (Or.inr (hw _ (List.mem_of_getElem? (i := 51) rfl))) (Or.inr (hw _ (List.mem_of_getElem? (i := 55) rfl))) (by decide) (t := .boolean) (t' := (.object "java/time/Instant")) (by decide) (by decide))))
  have f40 := (Fw26.other W32 (Or.inr (slot_ne (Or.inr (hw _ (List.mem_of_getElem? (i := 53) rfl))) (Or.inr (hw _ (List.mem_of_getElem? (i := 55) rfl))) (by decide) (t := .boolean) (t' := (.object "java/time/Instant")) (by decide) (by decide))))
  exact ⟨N32, K35, rfl, f36, f37, f38, f39, f40, Fw32⟩
theorem own_ef_own_rn6_1 (m : MethodId) (xa : Addr) (x1 : Value) (x2 : Value) (x3 : Value) (xt : Int32) (hr_x1 : x1.isRef = true) (hr_x2 : x2.isRef = true) (hr_x3 : x3.isRef = true) : entryFrame m #[(.ref xa), x1, x2, x3, (.int xt), (.int (1 : Int32)), .null] 7 = mkF m 0 #[.val (.ref xa), .val x1, .val x2, .val x3, .val (.int xt), .val (.int (1 : Int32)), .val .null] [] := by rcases ref_cases hr_x1 with rfl | ⟨_, rfl⟩ <;> rcases ref_cases hr_x2 with rfl | ⟨_, rfl⟩ <;> rcases ref_cases hr_x3 with rfl | ⟨_, rfl⟩ <;> first | (simp [entryFrame, mkF, argsToLocals, Value.category]; done) | rfl
def Q_own_rn6_1 (Z : State) (xa : Addr) (x1 : Value) (x2 : Value) (x3 : Value) (xt : Int32) (h0 : Heap) (n0 : Nat) (v : Option Value) (h : Heap) (L : List Loc) : Prop := Fr n0 L ∧ Keep h0 h [xa] ∧ v = none ∧ Fld Z h xa "com/example/saasy/saasy/ledger/Renewal" "orderId" "Ljava/lang/String;" x1 ∧ Fld Z h xa "com/example/saasy/saasy/ledger/Renewal" "expireTime" "Ljava/lang/String;" x2 ∧ Fld Z h xa "com/example/saasy/saasy/ledger/Renewal" "productId" "Ljava/lang/String;" x3 ∧ Fld Z h xa "com/example/saasy/saasy/ledger/Renewal" "endsTrial" "Z" (.int xt) ∧ Fld Z h xa "com/example/saasy/saasy/ledger/Renewal" "cancelsAPeriod" "Z" (.int (1 : Int32)) ∧ Fld Z h xa "com/example/saasy/saasy/ledger/Renewal" "unfreezesOnlyAfter" "Ljava/time/Instant;" .null
set_option maxRecDepth 65536 in
set_option maxHeartbeats 40000000 in
theorem own_rn6_1 (l : Launch) (Z : State) (a0 : Array Value) (hw : ∀ d ∈ tables_1, d.before a0 Z = true) (ws : List Jvm.Cond) (xa : Addr) (x1 : Value) (x2 : Value) (x3 : Value) (xt : Int32) (h0 : Heap) (n0 : Nat) (O0 : Old Z n0 h0) (P0 : Exa Z h0 xa "com/example/saasy/saasy/ledger/Renewal") (P1 : Fld Z h0 xa "com/example/saasy/saasy/ledger/Renewal" "orderId" "Ljava/lang/String;" .null) (P2 : Fld Z h0 xa "com/example/saasy/saasy/ledger/Renewal" "expireTime" "Ljava/lang/String;" .null) (P3 : Fld Z h0 xa "com/example/saasy/saasy/ledger/Renewal" "productId" "Ljava/lang/String;" .null) (P4 : Fld Z h0 xa "com/example/saasy/saasy/ledger/Renewal" "endsTrial" "Z" (.int (0 : Int32))) (P5 : Fld Z h0 xa "com/example/saasy/saasy/ledger/Renewal" "cancelsAPeriod" "Z" (.int (0 : Int32))) (P6 : Fld Z h0 xa "com/example/saasy/saasy/ledger/Renewal" "unfreezesOnlyAfter" "Ljava/time/Instant;" .null) (P7 : x1.isRef = true) (P8 : x2.isRef = true) (P9 : x3.isRef = true) (P10 : n0 ≤ xa) (P11 : xt = 0 ∨ xt = 1) :
    MetFree l (⟨"com/example/saasy/saasy/ledger/Renewal", "<init>", "(Ljava/lang/String;Ljava/lang/String;Ljava/lang/String;ZZLjava/time/Instant;)V"⟩ : MethodName) (head1 (Jvm.Cond.code (⟨"com/example/saasy/saasy/ledger/Renewal", "<init>", "(Ljava/lang/String;Ljava/lang/String;Ljava/lang/String;ZZLjava/time/Instant;)V"⟩ : MethodName) prog_15_method_2_code 7 none :: ws) ({ frames := 1, cells := 0, slots := 0, locals := 12 } : Room)) (fun as_ U_ => as_ = #[(.ref xa), x1, x2, x3, (.int xt), (.int (1 : Int32)), .null] ∧ Z.Warmed39 U_.vm ∧ U_.heap = h0) (fun _ _ _ _ _ => True) (fun _ U_ o_ U2_ => ∃ v_ L_, o_ = .returned v_ ∧ Q_own_rn6_1 Z xa x1 x2 x3 xt h0 n0 v_ U2_.heap L_ ∧ FrameEnd U_ o_ U2_ L_ ({ frames := 1, cells := 0, slots := 0, locals := 12 } : Room).cells ({ frames := 1, cells := 0, slots := 0, locals := 12 } : Room).slots) := by
  refine MetFree.of_bodySF (plainFor_of_name own_pn_com_example_saasy_saasy_ledger_Renewal) hisR ?_
  intro p e s m args below meth c s₁ Bd hml0 hP hK
  obtain ⟨rfl, hZ, hh⟩ := hP
  have hx := Bd.exec
  have hby := Bd.bytes
  have hml : c.maxLocals = 7 := hml0
  have hown : s.vm.findClass "com/example/saasy/saasy/ledger/Renewal" = some m.cls := findClass_of_methodNamed Bd.named
  have hnm := (name_of_methodNamed Bd.named Bd.method).1
  have hlk : meth.locks = false := Bd.notSynchronized
  have hret := Bd.returns
  have X0 : Stand p l e ({ frames := 1, cells := 0, slots := 0, locals := 12 } : Room) s m #[(.ref xa), x1, x2, x3, (.int xt), (.int (1 : Int32)), .null] below meth c s₁ [] 0 0 := Stand.of_body Bd
  have e0 : s₁.heap = h0 := by rw [← hh, Bd.state]; rfl
  have N0 := Fr.nil n0
  have z0 : Z.heap.size = n0 := O0.1
  have z1 : n0 ≤ h0.size := z0 ▸ O0.2.1
  have K0 : Keep h0 h0 [xa] := Keep.refl _ _
  show own_Goes p e below (s₁.setTop (entryFrame m #[(.ref xa), x1, x2, x3, (.int xt), (.int (1 : Int32)), .null] 7)) (own_PostN s (Q_own_rn6_1 Z xa x1 x2 x3 xt h0 n0) ({ frames := 1, cells := 0, slots := 0, locals := 12 } : Room).cells ({ frames := 1, cells := 0, slots := 0, locals := 12 } : Room).slots)
  refine own_cast (own_ef_own_rn6_1 m xa x1 x2 x3 xt P7 P8 P9) ?_
  show own_Goes p e below (s₁.setTop (mkF m 0 #[.val (.ref xa), .val x1, .val x2, .val x3, .val (.int xt), .val (.int (1 : Int32)), .val .null] [])) _
  have ltP0 : xa < h0.size := P0.lt
  refine own_go (fun t_ k_ => XS.aloadN X0.here hx rfl (hb hby own_d9_0) rfl rfl k_) ?_
  show own_Goes p e below (s₁.setTop (mkF m 1 #[.val (.ref xa), .val x1, .val x2, .val x3, .val (.int xt), .val (.int (1 : Int32)), .val .null] [(.ref xa)])) _
  obtain ⟨T1, X1, e1, st1⟩ := initO X0 hx hZ hown (hw _ (List.mem_of_getElem? (i := 43) rfl)) (hw _ (List.mem_of_getElem? (i := 16) rfl)) (hw _ (List.mem_of_getElem? (i := 17) rfl)) e0 (g := (mkF m 1 #[.val (.ref xa), .val x1, .val x2, .val x3, .val (.int xt), .val (.int (1 : Int32)), .val .null] [(.ref xa)])) rfl (by rw [hml]; rfl) rfl (hb hby own_d9_1) (by decide) (W := 0) (by show 2 * 0 + _ ≤ _; exact Nat.le_of_eq rfl) (by decide)
  refine own_go st1 ?_
  show own_Goes p e below (T1.setTop (mkF m 4 #[.val (.ref xa), .val x1, .val x2, .val x3, .val (.int xt), .val (.int (1 : Int32)), .val .null] [])) _
  refine own_go (fun t_ k_ => XS.aloadN X1.here hx rfl (hb hby own_d9_4) rfl rfl k_) ?_
  show own_Goes p e below (T1.setTop (mkF m 5 #[.val (.ref xa), .val x1, .val x2, .val x3, .val (.int xt), .val (.int (1 : Int32)), .val .null] [(.ref xa)])) _
  refine own_go (fun t_ k_ => XS.aloadN X1.here hx rfl (hb hby own_d9_5) rfl P7 k_) ?_
  show own_Goes p e below (T1.setTop (mkF m 6 #[.val (.ref xa), .val x1, .val x2, .val x3, .val (.int xt), .val (.int (1 : Int32)), .val .null] [x1, (.ref xa)])) _
  obtain ⟨T2, h2, X2, e2, W2, st2⟩ := putF X1 hx hZ hown (host := "") (Or.inl (hw _ (List.mem_of_getElem? (i := 44) rfl))) Via.refl e1 P1 P0 (Or.inr ⟨(hw _ (List.mem_of_getElem? (i := 45) rfl)), rfl, hnm⟩) (hw _ (List.mem_of_getElem? (i := 35) rfl)) (ty := (.object "java/lang/String")) (by decide) (own_narR P7 rfl) (own_fitsR P7 rfl) (g := (mkF m 6 #[.val (.ref xa), .val x1, .val x2, .val x3, .val (.int xt), .val (.int (1 : Int32)), .val .null] [x1, (.ref xa)])) rfl rfl (hb hby own_d9_6)
  refine own_go st2 ?_
  have O3 := O0.wr W2 (show n0 ≤ xa by omega)
  have sz4 : h2.size = h0.size := Wr.size W2
  have K5 := K0.wr W2 (Or.inl (List.mem_of_getElem? (i := 0) rfl))
  have N2 := Fr.snoc X2 N0 (show n0 ≤ xa by omega)
  have Fw2 := P1.same W2
  show own_Goes p e below (T2.setTop (mkF m 9 #[.val (.ref xa), .val x1, .val x2, .val x3, .val (.int xt), .val (.int (1 : Int32)), .val .null] [])) _
  refine own_go (fun t_ k_ => XS.aloadN X2.here hx rfl (hb hby own_d9_9) rfl rfl k_) ?_
  show own_Goes p e below (T2.setTop (mkF m 10 #[.val (.ref xa), .val x1, .val x2, .val x3, .val (.int xt), .val (.int (1 : Int32)), .val .null] [(.ref xa)])) _
  refine own_go (fun t_ k_ => XS.aloadN X2.here hx rfl (hb hby own_d9_10) rfl P8 k_) ?_
  show own_Goes p e below (T2.setTop (mkF m 11 #[.val (.ref xa), .val x1, .val x2, .val x3, .val (.int xt), .val (.int (1 : Int32)), .val .null] [x2, (.ref xa)])) _
  have f6 := (P2.other W2 (Or.inr (slot_ne (Or.inr (hw _ (List.mem_of_getElem? (i := 47) rfl))) (Or.inr (hw _ (List.mem_of_getElem? (i := 45) rfl))) (by decide) (t := (.object "java/lang/String")) (t' := (.object "java/lang/String")) (by decide) (by decide))))
  have f7 := (P0.wr W2)
  obtain ⟨T8, h8, X8, e8, W8, st8⟩ := putF X2 hx hZ hown (host := "") (Or.inl (hw _ (List.mem_of_getElem? (i := 46) rfl))) Via.refl e2 f6 f7 (Or.inr ⟨(hw _ (List.mem_of_getElem? (i := 47) rfl)), rfl, hnm⟩) (hw _ (List.mem_of_getElem? (i := 35) rfl)) (ty := (.object "java/lang/String")) (by decide) (own_narR P8 rfl) (own_fitsR P8 rfl) (g := (mkF m 11 #[.val (.ref xa), .val x1, .val x2, .val x3, .val (.int xt), .val (.int (1 : Int32)), .val .null] [x2, (.ref xa)])) rfl rfl (hb hby own_d9_11)
  refine own_go st8 ?_
  have O9 := O3.wr W8 (show n0 ≤ xa by omega)
  have sz10 : h8.size = h2.size := Wr.size W8
  have K11 := K5.wr W8 (Or.inl (List.mem_of_getElem? (i := 0) rfl))
  have N8 := Fr.snoc X8 N2 (show n0 ≤ xa by omega)
  have Fw8 := f6.same W8
  show own_Goes p e below (T8.setTop (mkF m 14 #[.val (.ref xa), .val x1, .val x2, .val x3, .val (.int xt), .val (.int (1 : Int32)), .val .null] [])) _
  refine own_go (fun t_ k_ => XS.aloadN X8.here hx rfl (hb hby own_d9_14) rfl rfl k_) ?_
  show own_Goes p e below (T8.setTop (mkF m 15 #[.val (.ref xa), .val x1, .val x2, .val x3, .val (.int xt), .val (.int (1 : Int32)), .val .null] [(.ref xa)])) _
  refine own_go (fun t_ k_ => XS.aloadN X8.here hx rfl (hb hby own_d9_15) rfl P9 k_) ?_
  show own_Goes p e below (T8.setTop (mkF m 16 #[.val (.ref xa), .val x1, .val x2, .val x3, .val (.int xt), .val (.int (1 : Int32)), .val .null] [x3, (.ref xa)])) _
  have f12 := ((P3.other W2 (Or.inr (slot_ne (Or.inr (hw _ (List.mem_of_getElem? (i := 49) rfl))) (Or.inr (hw _ (List.mem_of_getElem? (i := 45) rfl))) (by decide) (t := (.object "java/lang/String")) (t' := (.object "java/lang/String")) (by decide) (by decide)))).other W8 (Or.inr (slot_ne (Or.inr (hw _ (List.mem_of_getElem? (i := 49) rfl))) (Or.inr (hw _ (List.mem_of_getElem? (i := 47) rfl))) (by decide) (t := (.object "java/lang/String")) (t' := (.object "java/lang/String")) (by decide) (by decide))))
  have f13 := (f7.wr W8)
  obtain ⟨T14, h14, X14, e14, W14, st14⟩ := putF X8 hx hZ hown (host := "") (Or.inl (hw _ (List.mem_of_getElem? (i := 48) rfl))) Via.refl e8 f12 f13 (Or.inr ⟨(hw _ (List.mem_of_getElem? (i := 49) rfl)), rfl, hnm⟩) (hw _ (List.mem_of_getElem? (i := 35) rfl)) (ty := (.object "java/lang/String")) (by decide) (own_narR P9 rfl) (own_fitsR P9 rfl) (g := (mkF m 16 #[.val (.ref xa), .val x1, .val x2, .val x3, .val (.int xt), .val (.int (1 : Int32)), .val .null] [x3, (.ref xa)])) rfl rfl (hb hby own_d9_16)
  refine own_go st14 ?_
  have O15 := O9.wr W14 (show n0 ≤ xa by omega)
  have sz16 : h14.size = h8.size := Wr.size W14
  have K17 := K11.wr W14 (Or.inl (List.mem_of_getElem? (i := 0) rfl))
  have N14 := Fr.snoc X14 N8 (show n0 ≤ xa by omega)
  have Fw14 := f12.same W14
  show own_Goes p e below (T14.setTop (mkF m 19 #[.val (.ref xa), .val x1, .val x2, .val x3, .val (.int xt), .val (.int (1 : Int32)), .val .null] [])) _
  refine own_go (fun t_ k_ => XS.aloadN X14.here hx rfl (hb hby own_d9_19) rfl rfl k_) ?_
  show own_Goes p e below (T14.setTop (mkF m 20 #[.val (.ref xa), .val x1, .val x2, .val x3, .val (.int xt), .val (.int (1 : Int32)), .val .null] [(.ref xa)])) _
  refine own_go (fun t_ k_ => XS.iload X14.here hx rfl (hb hby own_d9_20) rfl k_) ?_
  show own_Goes p e below (T14.setTop (mkF m 22 #[.val (.ref xa), .val x1, .val x2, .val x3, .val (.int xt), .val (.int (1 : Int32)), .val .null] [(.int xt), (.ref xa)])) _
  have f18 := (((P4.other W2 (Or.inr (slot_ne (Or.inr (hw _ (List.mem_of_getElem? (i := 51) rfl))) (Or.inr (hw _ (List.mem_of_getElem? (i := 45) rfl))) (by decide) (t := .boolean) (t' := (.object "java/lang/String")) (by decide) (by decide)))).other W8 (Or.inr (slot_ne (Or.inr (hw _ (List.mem_of_getElem? (i := 51) rfl))) (Or.inr (hw _ (List.mem_of_getElem? (i := 47) rfl))) (by decide) (t := .boolean) (t' := (.object "java/lang/String")) (by decide) (by decide)))).other W14 (Or.inr (slot_ne (Or.inr (hw _ (List.mem_of_getElem? (i := 51) rfl))) (Or.inr (hw _ (List.mem_of_getElem? (i := 49) rfl))) (by decide) (t := .boolean) (t' := (.object "java/lang/String")) (by decide) (by decide))))
  have f19 := (f13.wr W14)
  obtain ⟨T20, h20, X20, e20, W20, st20⟩ := putFN X14 hx hZ hown (hw _ (List.mem_of_getElem? (i := 50) rfl)) Via.refl e14 f18 f19 (Or.inr ⟨(hw _ (List.mem_of_getElem? (i := 51) rfl)), rfl, hnm⟩) (hw _ (List.mem_of_getElem? (i := 35) rfl)) (ty := .boolean) (v' := (.int xt)) (by decide) (own_b01 P11) (own_b01f P11) (g := (mkF m 22 #[.val (.ref xa), .val x1, .val x2, .val x3, .val (.int xt), .val (.int (1 : Int32)), .val .null] [(.int xt), (.ref xa)])) rfl rfl (hb hby own_d9_22)
  refine own_go st20 ?_
  have O21 := O15.wr W20 (show n0 ≤ xa by omega)
  have sz22 : h20.size = h14.size := Wr.size W20
  have K23 := K17.wr W20 (Or.inl (List.mem_of_getElem? (i := 0) rfl))
  have N20 := Fr.snoc X20 N14 (show n0 ≤ xa by omega)
  have Fw20 := f18.same W20
  show own_Goes p e below (T20.setTop (mkF m 25 #[.val (.ref xa), .val x1, .val x2, .val x3, .val (.int xt), .val (.int (1 : Int32)), .val .null] [])) _
  refine own_go (fun t_ k_ => XS.aloadN X20.here hx rfl (hb hby own_d9_25) rfl rfl k_) ?_
  show own_Goes p e below (T20.setTop (mkF m 26 #[.val (.ref xa), .val x1, .val x2, .val x3, .val (.int xt), .val (.int (1 : Int32)), .val .null] [(.ref xa)])) _
  refine own_go (fun t_ k_ => XS.iload X20.here hx rfl (hb hby own_d9_26) rfl k_) ?_
  show own_Goes p e below (T20.setTop (mkF m 28 #[.val (.ref xa), .val x1, .val x2, .val x3, .val (.int xt), .val (.int (1 : Int32)), .val .null] [(.int (1 : Int32)), (.ref xa)])) _
  have f24 := ((((P5.other W2 (Or.inr (slot_ne (Or.inr (hw _ (List.mem_of_getElem? (i := 53) rfl))) (Or.inr (hw _ (List.mem_of_getElem? (i := 45) rfl))) (by decide) (t := .boolean) (t' := (.object "java/lang/String")) (by decide) (by decide)))).other W8 (Or.inr (slot_ne (Or.inr (hw _ (List.mem_of_getElem? (i := 53) rfl))) (Or.inr (hw _ (List.mem_of_getElem? (i := 47) rfl))) (by decide) (t := .boolean) (t' := (.object "java/lang/String")) (by decide) (by decide)))).other W14 (Or.inr (slot_ne (Or.inr (hw _ (List.mem_of_getElem? (i := 53) rfl))) (Or.inr (hw _ (List.mem_of_getElem? (i := 49) rfl))) (by decide) (t := .boolean) (t' := (.object "java/lang/String")) (by decide) (by decide)))).other W20 (Or.inr (slot_ne (Or.inr (hw _ (List.mem_of_getElem? (i := 53) rfl))) (Or.inr (hw _ (List.mem_of_getElem? (i := 51) rfl))) (by decide) (t := .boolean) (t' := .boolean) (by decide) (by decide))))
  have f25 := (f19.wr W20)
  obtain ⟨T26, h26, X26, e26, W26, st26⟩ := putFN X20 hx hZ hown (hw _ (List.mem_of_getElem? (i := 52) rfl)) Via.refl e20 f24 f25 (Or.inr ⟨(hw _ (List.mem_of_getElem? (i := 53) rfl)), rfl, hnm⟩) (hw _ (List.mem_of_getElem? (i := 35) rfl)) (ty := .boolean) (v' := (.int (1 : Int32))) (by decide) rfl rfl (g := (mkF m 28 #[.val (.ref xa), .val x1, .val x2, .val x3, .val (.int xt), .val (.int (1 : Int32)), .val .null] [(.int (1 : Int32)), (.ref xa)])) rfl rfl (hb hby own_d9_28)
  refine own_go st26 ?_
  have O27 := O21.wr W26 (show n0 ≤ xa by omega)
  have sz28 : h26.size = h20.size := Wr.size W26
  have K29 := K23.wr W26 (Or.inl (List.mem_of_getElem? (i := 0) rfl))
  have N26 := Fr.snoc X26 N20 (show n0 ≤ xa by omega)
  have Fw26 := f24.same W26
  show own_Goes p e below (T26.setTop (mkF m 31 #[.val (.ref xa), .val x1, .val x2, .val x3, .val (.int xt), .val (.int (1 : Int32)), .val .null] [])) _
  refine own_go (fun t_ k_ => XS.aloadN X26.here hx rfl (hb hby own_d9_31) rfl rfl k_) ?_
  show own_Goes p e below (T26.setTop (mkF m 32 #[.val (.ref xa), .val x1, .val x2, .val x3, .val (.int xt), .val (.int (1 : Int32)), .val .null] [(.ref xa)])) _
  refine own_go (fun t_ k_ => XS.aload X26.here hx rfl (hb hby own_d9_32) rfl rfl k_) ?_
  show own_Goes p e below (T26.setTop (mkF m 34 #[.val (.ref xa), .val x1, .val x2, .val x3, .val (.int xt), .val (.int (1 : Int32)), .val .null] [.null, (.ref xa)])) _
  have f30 := (((((P6.other W2 (Or.inr (slot_ne (Or.inr (hw _ (List.mem_of_getElem? (i := 55) rfl))) (Or.inr (hw _ (List.mem_of_getElem? (i := 45) rfl))) (by decide) (t := (.object "java/time/Instant")) (t' := (.object "java/lang/String")) (by decide) (by decide)))).other W8 (Or.inr (slot_ne (Or.inr (hw _ (List.mem_of_getElem? (i := 55) rfl))) (Or.inr (hw _ (List.mem_of_getElem? (i := 47) rfl))) (by decide) (t := (.object "java/time/Instant")) (t' := (.object "java/lang/String")) (by decide) (by decide)))).other W14 (Or.inr (slot_ne (Or.inr (hw _ (List.mem_of_getElem? (i := 55) rfl))) (Or.inr (hw _ (List.mem_of_getElem? (i := 49) rfl))) (by decide) (t := (.object "java/time/Instant")) (t' := (.object "java/lang/String")) (by decide) (by decide)))).other W20 (Or.inr (slot_ne (Or.inr (hw _ (List.mem_of_getElem? (i := 55) rfl))) (Or.inr (hw _ (List.mem_of_getElem? (i := 51) rfl))) (by decide) (t := (.object "java/time/Instant")) (t' := .boolean) (by decide) (by decide)))).other W26 (Or.inr (slot_ne (Or.inr (hw _ (List.mem_of_getElem? (i := 55) rfl))) (Or.inr (hw _ (List.mem_of_getElem? (i := 53) rfl))) (by decide) (t := (.object "java/time/Instant")) (t' := .boolean) (by decide) (by decide))))
  have f31 := (f25.wr W26)
  obtain ⟨T32, h32, X32, e32, W32, st32⟩ := putF X26 hx hZ hown (host := "") (Or.inl (hw _ (List.mem_of_getElem? (i := 54) rfl))) Via.refl e26 f30 f31 (Or.inr ⟨(hw _ (List.mem_of_getElem? (i := 55) rfl)), rfl, hnm⟩) (hw _ (List.mem_of_getElem? (i := 35) rfl)) (ty := (.object "java/time/Instant")) (by decide) rfl rfl (g := (mkF m 34 #[.val (.ref xa), .val x1, .val x2, .val x3, .val (.int xt), .val (.int (1 : Int32)), .val .null] [.null, (.ref xa)])) rfl rfl (hb hby own_d9_34)
  refine own_go st32 ?_
  have O33 := O27.wr W32 (show n0 ≤ xa by omega)
  have sz34 : h32.size = h26.size := Wr.size W32
  have K35 := K29.wr W32 (Or.inl (List.mem_of_getElem? (i := 0) rfl))
  have N32 := Fr.snoc X32 N26 (show n0 ≤ xa by omega)
  have Fw32 := f30.same W32
  show own_Goes p e below (T32.setTop (mkF m 37 #[.val (.ref xa), .val x1, .val x2, .val x3, .val (.int xt), .val (.int (1 : Int32)), .val .null] [])) _
  refine own_endN X32 (v := none) (fun _ => rfl) hlk (by decide) (by decide) ?_ (fun fs hr => X32.returnOut hx hret (hb hby own_d9_37) hr)
  show Q_own_rn6_1 Z xa x1 x2 x3 xt h0 n0 _ T32.heap _
  rw [e32]
  have f36 := (((((Fw2.other W8 (Or.inr (slot_ne (Or.inr (hw _ (List.mem_of_getElem? (i := 45) rfl))) (Or.inr (hw _ (List.mem_of_getElem? (i := 47) rfl))) (by decide) (t := (.object "java/lang/String")) (t' := (.object "java/lang/String")) (by decide) (by decide)))).other W14 (Or.inr (slot_ne (Or.inr (hw _ (List.mem_of_getElem? (i := 45) rfl))) (Or.inr (hw _ (List.mem_of_getElem? (i := 49) rfl))) (by decide) (t := (.object "java/lang/String")) (t' := (.object "java/lang/String")) (by decide) (by decide)))).other W20 (Or.inr (slot_ne (Or.inr (hw _ (List.mem_of_getElem? (i := 45) rfl))) (Or.inr (hw _ (List.mem_of_getElem? (i := 51) rfl))) (by decide) (t := (.object "java/lang/String")) (t' := .boolean) (by decide) (by decide)))).other W26 (Or.inr (slot_ne (Or.inr (hw _ (List.mem_of_getElem? (i := 45) rfl))) (Or.inr (hw _ (List.mem_of_getElem? (i := 53) rfl))) (by decide) (t := (.object "java/lang/String")) (t' := .boolean) (by decide) (by decide)))).other W32 (Or.inr (slot_ne (Or.inr (hw _ (List.mem_of_getElem? (i := 45) rfl))) (Or.inr (hw _ (List.mem_of_getElem? (i := 55) rfl))) (by decide) (t := (.object "java/lang/String")) (t' := (.object "java/time/Instant")) (by decide) (by decide))))
  have f37 := ((((Fw8.other W14 (Or.inr (slot_ne (Or.inr (hw _ (List.mem_of_getElem? (i := 47) rfl))) (Or.inr (hw _ (List.mem_of_getElem? (i := 49) rfl))) (by decide) (t := (.object "java/lang/String")) (t' := (.object "java/lang/String")) (by decide) (by decide)))).other W20 (Or.inr (slot_ne (Or.inr (hw _ (List.mem_of_getElem? (i := 47) rfl))) (Or.inr (hw _ (List.mem_of_getElem? (i := 51) rfl))) (by decide) (t := (.object "java/lang/String")) (t' := .boolean) (by decide) (by decide)))).other W26 (Or.inr (slot_ne (Or.inr (hw _ (List.mem_of_getElem? (i := 47) rfl))) (Or.inr (hw _ (List.mem_of_getElem? (i := 53) rfl))) (by decide) (t := (.object "java/lang/String")) (t' := .boolean) (by decide) (by decide)))).other W32 (Or.inr (slot_ne (Or.inr (hw _ (List.mem_of_getElem? (i := 47) rfl))) (Or.inr (hw _ (List.mem_of_getElem? (i := 55) rfl))) (by decide) (t := (.object "java/lang/String")) (t' := (.object "java/time/Instant")) (by decide) (by decide))))
  have f38 := (((Fw14.other W20 (Or.inr (slot_ne (Or.inr (hw _ (List.mem_of_getElem? (i := 49) rfl))) (Or.inr (hw _ (List.mem_of_getElem? (i := 51) rfl))) (by decide) (t := (.object "java/lang/String")) (t' := .boolean) (by decide) (by decide)))).other W26 (Or.inr (slot_ne (Or.inr (hw _ (List.mem_of_getElem? (i := 49) rfl))) (Or.inr (hw _ (List.mem_of_getElem? (i := 53) rfl))) (by decide) (t := (.object "java/lang/String")) (t' := .boolean) (by decide) (by decide)))).other W32 (Or.inr (slot_ne (Or.inr (hw _ (List.mem_of_getElem? (i := 49) rfl))) (Or.inr (hw _ (List.mem_of_getElem? (i := 55) rfl))) (by decide) (t := (.object "java/lang/String")) (t' := (.object "java/time/Instant")) (by decide) (by decide))))
  have f39 := ((Fw20.other W26 (Or.inr (slot_ne (Or.inr (hw _ (List.mem_of_getElem? (i := 51) rfl))) (Or.inr (hw _ (List.mem_of_getElem? (i := 53) rfl))) (by decide) (t := .boolean) (t' := .boolean) (by decide) (by decide)))).other W32 (Or.inr (slot_ne (Or.inr (hw _ (List.mem_of_getElem? (i := 51) rfl))) (Or.inr (hw _ (List.mem_of_getElem? (i := 55) rfl))) (by decide) (t := .boolean) (t' := (.object "java/time/Instant")) (by decide) (by decide))))
  have f40 := (Fw26.other W32 (Or.inr (slot_ne (Or.inr (hw _ (List.mem_of_getElem? (i := 53) rfl))) (Or.inr (hw _ (List.mem_of_getElem? (i := 55) rfl))) (by decide) (t := .boolean) (t' := (.object "java/time/Instant")) (by decide) (by decide))))
  exact ⟨N32, K35, rfl, f36, f37, f38, f39, f40, Fw32⟩
theorem own_d8_0 : decode prog_15_method_1_code 0 = .ok (.aload_n 0, 1) := by decide +kernel
theorem own_d8_1 : decode prog_15_method_1_code 1 = .ok (.aload_n 1, 1) := by decide +kernel
theorem own_d8_2 : decode prog_15_method_1_code 2 = .ok (.aload_n 2, 1) := by decide +kernel
theorem own_d8_3 : decode prog_15_method_1_code 3 = .ok (.aload_n 3, 1) := by decide +kernel
theorem own_d8_4 : decode prog_15_method_1_code 4 = .ok (.iload 4, 2) := by decide +kernel
theorem own_d8_6 : decode prog_15_method_1_code 6 = .ok (.iconst 0, 1) := by decide +kernel
theorem own_d8_7 : decode prog_15_method_1_code 7 = .ok (.aconst_null, 1) := by decide +kernel
theorem own_d8_8 : decode prog_15_method_1_code 8 = .ok (.invokespecial 1, 3) := by decide +kernel
theorem own_pd_1 : parseMethodDescriptor "(Ljava/lang/String;Ljava/lang/String;Ljava/lang/String;ZZLjava/time/Instant;)V" = some ⟨[(.object "java/lang/String"), (.object "java/lang/String"), (.object "java/lang/String"), .boolean, .boolean, (.object "java/time/Instant")], none⟩ := by decide +kernel
abbrev own_m2 : MethodName := ⟨"com/example/saasy/saasy/ledger/Renewal", "<init>", "(Ljava/lang/String;Ljava/lang/String;Ljava/lang/String;ZZLjava/time/Instant;)V"⟩
theorem own_d8_11 : decode prog_15_method_1_code 11 = .ok (.return_, 1) := by decide +kernel
theorem own_ef_own_rn4 (m : MethodId) (xa : Addr) (x1 : Value) (x2 : Value) (x3 : Value) (xt : Int32) (hr_x1 : x1.isRef = true) (hr_x2 : x2.isRef = true) (hr_x3 : x3.isRef = true) : entryFrame m #[(.ref xa), x1, x2, x3, (.int xt)] 5 = mkF m 0 #[.val (.ref xa), .val x1, .val x2, .val x3, .val (.int xt)] [] := by rcases ref_cases hr_x1 with rfl | ⟨_, rfl⟩ <;> rcases ref_cases hr_x2 with rfl | ⟨_, rfl⟩ <;> rcases ref_cases hr_x3 with rfl | ⟨_, rfl⟩ <;> first | (simp [entryFrame, mkF, argsToLocals, Value.category]; done) | rfl
def Q_own_rn4 (Z : State) (xa : Addr) (x1 : Value) (x2 : Value) (x3 : Value) (xt : Int32) (h0 : Heap) (n0 : Nat) (v : Option Value) (h : Heap) (L : List Loc) : Prop := Fr n0 L ∧ Keep h0 h [xa] ∧ v = none ∧ Fld Z h xa "com/example/saasy/saasy/ledger/Renewal" "orderId" "Ljava/lang/String;" x1 ∧ Fld Z h xa "com/example/saasy/saasy/ledger/Renewal" "expireTime" "Ljava/lang/String;" x2 ∧ Fld Z h xa "com/example/saasy/saasy/ledger/Renewal" "productId" "Ljava/lang/String;" x3 ∧ Fld Z h xa "com/example/saasy/saasy/ledger/Renewal" "endsTrial" "Z" (.int xt) ∧ Fld Z h xa "com/example/saasy/saasy/ledger/Renewal" "cancelsAPeriod" "Z" (.int (0 : Int32)) ∧ Fld Z h xa "com/example/saasy/saasy/ledger/Renewal" "unfreezesOnlyAfter" "Ljava/time/Instant;" .null
set_option maxRecDepth 65536 in
set_option maxHeartbeats 40000000 in
theorem own_rn4 (l : Launch) (Z : State) (a0 : Array Value) (hw : ∀ d ∈ tables_1, d.before a0 Z = true) (ws : List Jvm.Cond) (xa : Addr) (x1 : Value) (x2 : Value) (x3 : Value) (xt : Int32) (h0 : Heap) (n0 : Nat) (O0 : Old Z n0 h0) (P0 : Exa Z h0 xa "com/example/saasy/saasy/ledger/Renewal") (P1 : Fld Z h0 xa "com/example/saasy/saasy/ledger/Renewal" "orderId" "Ljava/lang/String;" .null) (P2 : Fld Z h0 xa "com/example/saasy/saasy/ledger/Renewal" "expireTime" "Ljava/lang/String;" .null) (P3 : Fld Z h0 xa "com/example/saasy/saasy/ledger/Renewal" "productId" "Ljava/lang/String;" .null) (P4 : Fld Z h0 xa "com/example/saasy/saasy/ledger/Renewal" "endsTrial" "Z" (.int (0 : Int32))) (P5 : Fld Z h0 xa "com/example/saasy/saasy/ledger/Renewal" "cancelsAPeriod" "Z" (.int (0 : Int32))) (P6 : Fld Z h0 xa "com/example/saasy/saasy/ledger/Renewal" "unfreezesOnlyAfter" "Ljava/time/Instant;" .null) (P7 : x1.isRef = true) (P8 : x2.isRef = true) (P9 : x3.isRef = true) (P10 : n0 ≤ xa) (P11 : xt = 0 ∨ xt = 1) :
    MetFree l (⟨"com/example/saasy/saasy/ledger/Renewal", "<init>", "(Ljava/lang/String;Ljava/lang/String;Ljava/lang/String;Z)V"⟩ : MethodName) (head1 (Jvm.Cond.code (⟨"com/example/saasy/saasy/ledger/Renewal", "<init>", "(Ljava/lang/String;Ljava/lang/String;Ljava/lang/String;Z)V"⟩ : MethodName) prog_15_method_1_code 5 none :: ws) ({ frames := 2, cells := 0, slots := 0, locals := 30 } : Room)) (fun as_ U_ => as_ = #[(.ref xa), x1, x2, x3, (.int xt)] ∧ Z.Warmed39 U_.vm ∧ U_.heap = h0) (fun _ _ _ _ _ => True) (fun _ U_ o_ U2_ => ∃ v_ L_, o_ = .returned v_ ∧ Q_own_rn4 Z xa x1 x2 x3 xt h0 n0 v_ U2_.heap L_ ∧ FrameEnd U_ o_ U2_ L_ ({ frames := 2, cells := 0, slots := 0, locals := 30 } : Room).cells ({ frames := 2, cells := 0, slots := 0, locals := 30 } : Room).slots) := by
  refine MetFree.of_bodySF (plainFor_of_name own_pn_com_example_saasy_saasy_ledger_Renewal) hisR ?_
  intro p e s m args below meth c s₁ Bd hml0 hP hK
  obtain ⟨rfl, hZ, hh⟩ := hP
  have hx := Bd.exec
  have hby := Bd.bytes
  have hml : c.maxLocals = 5 := hml0
  have hown : s.vm.findClass "com/example/saasy/saasy/ledger/Renewal" = some m.cls := findClass_of_methodNamed Bd.named
  have hnm := (name_of_methodNamed Bd.named Bd.method).1
  have hlk : meth.locks = false := Bd.notSynchronized
  have hret := Bd.returns
  have X0 : Stand p l e ({ frames := 2, cells := 0, slots := 0, locals := 30 } : Room) s m #[(.ref xa), x1, x2, x3, (.int xt)] below meth c s₁ [] 0 0 := Stand.of_body Bd
  have e0 : s₁.heap = h0 := by rw [← hh, Bd.state]; rfl
  have N0 := Fr.nil n0
  have z0 : Z.heap.size = n0 := O0.1
  have z1 : n0 ≤ h0.size := z0 ▸ O0.2.1
  have K0 : Keep h0 h0 [xa] := Keep.refl _ _
  show own_Goes p e below (s₁.setTop (entryFrame m #[(.ref xa), x1, x2, x3, (.int xt)] 5)) (own_PostN s (Q_own_rn4 Z xa x1 x2 x3 xt h0 n0) ({ frames := 2, cells := 0, slots := 0, locals := 30 } : Room).cells ({ frames := 2, cells := 0, slots := 0, locals := 30 } : Room).slots)
  refine own_cast (own_ef_own_rn4 m xa x1 x2 x3 xt P7 P8 P9) ?_
  show own_Goes p e below (s₁.setTop (mkF m 0 #[.val (.ref xa), .val x1, .val x2, .val x3, .val (.int xt)] [])) _
  have ltP0 : xa < h0.size := P0.lt
  refine own_go (fun t_ k_ => XS.aloadN X0.here hx rfl (hb hby own_d8_0) rfl rfl k_) ?_
  show own_Goes p e below (s₁.setTop (mkF m 1 #[.val (.ref xa), .val x1, .val x2, .val x3, .val (.int xt)] [(.ref xa)])) _
  refine own_go (fun t_ k_ => XS.aloadN X0.here hx rfl (hb hby own_d8_1) rfl P7 k_) ?_
  show own_Goes p e below (s₁.setTop (mkF m 2 #[.val (.ref xa), .val x1, .val x2, .val x3, .val (.int xt)] [x1, (.ref xa)])) _
  refine own_go (fun t_ k_ => XS.aloadN X0.here hx rfl (hb hby own_d8_2) rfl P8 k_) ?_
  show own_Goes p e below (s₁.setTop (mkF m 3 #[.val (.ref xa), .val x1, .val x2, .val x3, .val (.int xt)] [x2, x1, (.ref xa)])) _
  refine own_go (fun t_ k_ => XS.aloadN X0.here hx rfl (hb hby own_d8_3) rfl P9 k_) ?_
  show own_Goes p e below (s₁.setTop (mkF m 4 #[.val (.ref xa), .val x1, .val x2, .val x3, .val (.int xt)] [x3, x2, x1, (.ref xa)])) _
  refine own_go (fun t_ k_ => XS.iload X0.here hx rfl (hb hby own_d8_4) rfl k_) ?_
  show own_Goes p e below (s₁.setTop (mkF m 6 #[.val (.ref xa), .val x1, .val x2, .val x3, .val (.int xt)] [(.int xt), x3, x2, x1, (.ref xa)])) _
  refine own_go (fun t_ k_ => XS.iconst X0.here hx rfl (hb hby own_d8_6) k_) ?_
  show own_Goes p e below (s₁.setTop (mkF m 7 #[.val (.ref xa), .val x1, .val x2, .val x3, .val (.int xt)] [(.int (0 : Int32)), (.int xt), x3, x2, x1, (.ref xa)])) _
  refine own_go (fun t_ k_ => XS.aconstNull X0.here hx rfl (hb hby own_d8_7) k_) ?_
  show own_Goes p e below (s₁.setTop (mkF m 8 #[.val (.ref xa), .val x1, .val x2, .val x3, .val (.int xt)] [.null, (.int (0 : Int32)), (.int xt), x3, x2, x1, (.ref xa)])) _
  obtain ⟨_, _, ⟨T1, L1, k1, n1⟩, -, X1, ⟨Lc1, hQ1, l1, y1, z1⟩, st1⟩ := X0.specialBack hx (y := own_m2) rfl hown (mvT hZ (hw _ (List.mem_of_getElem? (i := 40) rfl))) (mvT hZ (hw _ (List.mem_of_getElem? (i := 41) rfl))) (mvT hZ (hw _ (List.mem_of_getElem? (i := 42) rfl))) (by decide) (backOf (W := 0) (own_rn6_0 l Z a0 hw [] xa x1 x2 x3 xt h0 n0 O0 P0 P1 P2 P3 P4 P5 P6 P7 P8 P9 (show n0 ≤ xa by first | assumption | omega | decide) (show xt = 0 ∨ xt = 1 from P11)) hZ (hw _ (List.mem_of_getElem? (i := 42) rfl)) (hw _ (List.mem_of_getElem? (i := 36) rfl)) (by decide) (by decide)) (g := (mkF m 8 #[.val (.ref xa), .val x1, .val x2, .val x3, .val (.int xt)] [.null, (.int (0 : Int32)), (.int xt), x3, x2, x1, (.ref xa)])) rfl (by rw [hml]; rfl) (Steps.refl _) (a := xa) (argsL := [x1, x2, x3, (.int xt), (.int (0 : Int32)), .null]) (rest := []) (lenOf own_pd_1 rfl) rfl (by show 2 * 0 + _ ≤ _; exact Nat.le_of_eq rfl) (hb hby own_d8_8) (fun _ _ => ⟨rfl, e0, (by decide : 0 + 0 ≤ _), (by decide : 0 + 0 ≤ _)⟩)
  dsimp only [Pt.U, Pt.locs, Pt.cells, Pt.slots] at X1 l1 y1 z1 st1 hQ1
  subst l1 y1 z1
  obtain ⟨h1, e1⟩ : ∃ z, T1.heap = z := ⟨_, rfl⟩
  rw [e1] at hQ1
  obtain ⟨Nc1, Kc1, rfl, c1_0, c1_1, c1_2, c1_3, c1_4, c1_5⟩ := hQ1
  have N1 := Fr.app N0 Nc1
  have O2 := O0.keep Kc1 (allS (show n0 ≤ xa by omega) all0)
  have sz3 : h0.size ≤ h1.size := Kc1.1
  have K4 := Keep.trans K0 Kc1 (allS (Or.inl (List.mem_of_getElem? (i := 0) rfl)) all0)
  refine own_goS st1 ?_
  show own_Goes p e below (T1.setTop (mkF m 11 #[.val (.ref xa), .val x1, .val x2, .val x3, .val (.int xt)] [])) _
  refine own_endN X1 (v := none) (fun _ => rfl) hlk (by decide) (by decide) ?_ (fun fs hr => X1.returnOut hx hret (hb hby own_d8_11) hr)
  show Q_own_rn4 Z xa x1 x2 x3 xt h0 n0 _ T1.heap _
  rw [e1]
  exact ⟨N1, K4, rfl, c1_0, c1_1, c1_2, c1_3, c1_4, c1_5⟩
theorem own_d10_0 : decode prog_15_method_3_code 0 = .ok (.new 2, 3) := by decide +kernel
theorem own_d10_3 : decode prog_15_method_3_code 3 = .ok (.dup, 1) := by decide +kernel
theorem own_d10_4 : decode prog_15_method_3_code 4 = .ok (.aload_n 0, 1) := by decide +kernel
theorem own_d10_5 : decode prog_15_method_3_code 5 = .ok (.getfield 12, 3) := by decide +kernel
theorem own_d10_8 : decode prog_15_method_3_code 8 = .ok (.aload_n 0, 1) := by decide +kernel
theorem own_d10_9 : decode prog_15_method_3_code 9 = .ok (.getfield 16, 3) := by decide +kernel
theorem own_d10_12 : decode prog_15_method_3_code 12 = .ok (.aload_n 0, 1) := by decide +kernel
theorem own_d10_13 : decode prog_15_method_3_code 13 = .ok (.getfield 19, 3) := by decide +kernel
theorem own_d10_16 : decode prog_15_method_3_code 16 = .ok (.aload_n 0, 1) := by decide +kernel
theorem own_d10_17 : decode prog_15_method_3_code 17 = .ok (.getfield 22, 3) := by decide +kernel
theorem own_d10_20 : decode prog_15_method_3_code 20 = .ok (.iconst 1, 1) := by decide +kernel
theorem own_d10_21 : decode prog_15_method_3_code 21 = .ok (.aload_n 0, 1) := by decide +kernel
theorem own_d10_22 : decode prog_15_method_3_code 22 = .ok (.getfield 29, 3) := by decide +kernel
theorem own_d10_25 : decode prog_15_method_3_code 25 = .ok (.invokespecial 1, 3) := by decide +kernel
theorem own_d10_28 : decode prog_15_method_3_code 28 = .ok (.areturn, 1) := by decide +kernel
theorem own_ef_own_cap (m : MethodId) (xa : Addr) : entryFrame m #[(.ref xa)] 1 = mkF m 0 #[.val (.ref xa)] [] := by first | (simp [entryFrame, mkF, argsToLocals, Value.category]; done) | rfl
def Q_own_cap (Z : State) (xa : Addr) (x1 : Value) (x2 : Value) (x3 : Value) (xt : Int32) (h0 : Heap) (n0 : Nat) (v : Option Value) (h : Heap) (L : List Loc) : Prop := Fr n0 L ∧ Keep h0 h [] ∧ ∃ (r : Addr), v = some (.ref r) ∧ Exa Z h r "com/example/saasy/saasy/ledger/Renewal" ∧ Fld Z h r "com/example/saasy/saasy/ledger/Renewal" "orderId" "Ljava/lang/String;" x1 ∧ Fld Z h r "com/example/saasy/saasy/ledger/Renewal" "expireTime" "Ljava/lang/String;" x2 ∧ Fld Z h r "com/example/saasy/saasy/ledger/Renewal" "productId" "Ljava/lang/String;" x3 ∧ Fld Z h r "com/example/saasy/saasy/ledger/Renewal" "endsTrial" "Z" (.int xt) ∧ Fld Z h r "com/example/saasy/saasy/ledger/Renewal" "cancelsAPeriod" "Z" (.int (1 : Int32)) ∧ Fld Z h r "com/example/saasy/saasy/ledger/Renewal" "unfreezesOnlyAfter" "Ljava/time/Instant;" .null ∧ h0.size ≤ r
set_option maxRecDepth 65536 in
set_option maxHeartbeats 40000000 in
theorem own_cap (l : Launch) (Z : State) (a0 : Array Value) (hw : ∀ d ∈ tables_1, d.before a0 Z = true) (ws : List Jvm.Cond) (xa : Addr) (x1 : Value) (x2 : Value) (x3 : Value) (xt : Int32) (h0 : Heap) (n0 : Nat) (O0 : Old Z n0 h0) (P0 : Fld Z h0 xa "com/example/saasy/saasy/ledger/Renewal" "orderId" "Ljava/lang/String;" x1) (P1 : Fld Z h0 xa "com/example/saasy/saasy/ledger/Renewal" "expireTime" "Ljava/lang/String;" x2) (P2 : Fld Z h0 xa "com/example/saasy/saasy/ledger/Renewal" "productId" "Ljava/lang/String;" x3) (P3 : Fld Z h0 xa "com/example/saasy/saasy/ledger/Renewal" "endsTrial" "Z" (.int xt)) (P4 : Fld Z h0 xa "com/example/saasy/saasy/ledger/Renewal" "cancelsAPeriod" "Z" (.int (0 : Int32))) (P5 : Fld Z h0 xa "com/example/saasy/saasy/ledger/Renewal" "unfreezesOnlyAfter" "Ljava/time/Instant;" .null) (P6 : x1.isRef = true) (P7 : x2.isRef = true) (P8 : x3.isRef = true) (P9 : xt = 0 ∨ xt = 1) :
    MetFree l (⟨"com/example/saasy/saasy/ledger/Renewal", "cancellingAPeriod", "()Lcom/example/saasy/saasy/ledger/Renewal;"⟩ : MethodName) (head1 (Jvm.Cond.code (⟨"com/example/saasy/saasy/ledger/Renewal", "cancellingAPeriod", "()Lcom/example/saasy/saasy/ledger/Renewal;"⟩ : MethodName) prog_15_method_3_code 1 (some (.object "com/example/saasy/saasy/ledger/Renewal")) :: ws) ({ frames := 2, cells := 1, slots := 6, locals := 31 } : Room)) (fun as_ U_ => as_ = #[(.ref xa)] ∧ Z.Warmed39 U_.vm ∧ U_.heap = h0) (fun _ _ _ _ _ => True) (fun _ U_ o_ U2_ => ∃ v_ L_, o_ = .returned v_ ∧ Q_own_cap Z xa x1 x2 x3 xt h0 n0 v_ U2_.heap L_ ∧ FrameEnd U_ o_ U2_ L_ ({ frames := 2, cells := 1, slots := 6, locals := 31 } : Room).cells ({ frames := 2, cells := 1, slots := 6, locals := 31 } : Room).slots) := by
  refine MetFree.of_bodySF (plainFor_of_name own_pn_com_example_saasy_saasy_ledger_Renewal) hisR ?_
  intro p e s m args below meth c s₁ Bd hml0 hP hK
  obtain ⟨rfl, hZ, hh⟩ := hP
  have hx := Bd.exec
  have hby := Bd.bytes
  have hml : c.maxLocals = 1 := hml0
  have hown : s.vm.findClass "com/example/saasy/saasy/ledger/Renewal" = some m.cls := findClass_of_methodNamed Bd.named
  have hnm := (name_of_methodNamed Bd.named Bd.method).1
  have hlk : meth.locks = false := Bd.notSynchronized
  have hret := Bd.returns
  have X0 : Stand p l e ({ frames := 2, cells := 1, slots := 6, locals := 31 } : Room) s m #[(.ref xa)] below meth c s₁ [] 0 0 := Stand.of_body Bd
  have e0 : s₁.heap = h0 := by rw [← hh, Bd.state]; rfl
  have N0 := Fr.nil n0
  have z0 : Z.heap.size = n0 := O0.1
  have z1 : n0 ≤ h0.size := z0 ▸ O0.2.1
  have K0 : Keep h0 h0 [] := Keep.refl _ _
  show own_Goes p e below (s₁.setTop (entryFrame m #[(.ref xa)] 1)) (own_PostN s (Q_own_cap Z xa x1 x2 x3 xt h0 n0) ({ frames := 2, cells := 1, slots := 6, locals := 31 } : Room).cells ({ frames := 2, cells := 1, slots := 6, locals := 31 } : Room).slots)
  refine own_cast (own_ef_own_cap m xa) ?_
  show own_Goes p e below (s₁.setTop (mkF m 0 #[.val (.ref xa)] [])) _
  obtain ⟨T1, h1, X1, e1, E1, A1, D1, -, st1⟩ := newO X0 hx hZ hown (hw _ (List.mem_of_getElem? (i := 61) rfl)) (hw _ (List.mem_of_getElem? (i := 35) rfl)) (hw _ (List.mem_of_getElem? (i := 36) rfl)) e0 (g := (mkF m 0 #[.val (.ref xa)] [])) rfl (hb hby own_d10_0) (by decide) (by decide)
  obtain ⟨b1, g1⟩ : ∃ z, z = h0.size := ⟨_, rfl⟩
  rw [← g1] at A1 D1 st1
  refine own_go st1 ?_
  have O2 := O0.ext E1
  have sz3 : h0.size ≤ h1.size := E1.1
  have K4 := K0.ext E1
  have l1 : b1 < h1.size := A1.lt
  have F1_orderId : Fld Z h1 b1 "com/example/saasy/saasy/ledger/Renewal" "orderId" "Ljava/lang/String;" .null := D1 (Or.inr (hw _ (List.mem_of_getElem? (i := 45) rfl))) (ty := (.object "java/lang/String")) (by decide)
  have F1_expireTime : Fld Z h1 b1 "com/example/saasy/saasy/ledger/Renewal" "expireTime" "Ljava/lang/String;" .null := D1 (Or.inr (hw _ (List.mem_of_getElem? (i := 47) rfl))) (ty := (.object "java/lang/String")) (by decide)
  have F1_productId : Fld Z h1 b1 "com/example/saasy/saasy/ledger/Renewal" "productId" "Ljava/lang/String;" .null := D1 (Or.inr (hw _ (List.mem_of_getElem? (i := 49) rfl))) (ty := (.object "java/lang/String")) (by decide)
  have F1_endsTrial : Fld Z h1 b1 "com/example/saasy/saasy/ledger/Renewal" "endsTrial" "Z" (.int (0 : Int32)) := D1 (Or.inr (hw _ (List.mem_of_getElem? (i := 51) rfl))) (ty := .boolean) (by decide)
  have F1_cancelsAPeriod : Fld Z h1 b1 "com/example/saasy/saasy/ledger/Renewal" "cancelsAPeriod" "Z" (.int (0 : Int32)) := D1 (Or.inr (hw _ (List.mem_of_getElem? (i := 53) rfl))) (ty := .boolean) (by decide)
  have F1_unfreezesOnlyAfter : Fld Z h1 b1 "com/example/saasy/saasy/ledger/Renewal" "unfreezesOnlyAfter" "Ljava/time/Instant;" .null := D1 (Or.inr (hw _ (List.mem_of_getElem? (i := 55) rfl))) (ty := (.object "java/time/Instant")) (by decide)
  show own_Goes p e below (T1.setTop (mkF m 3 #[.val (.ref xa)] [(.ref b1)])) _
  refine own_go (fun t_ k_ => XS.dup X1.here hx rfl (hb hby own_d10_3) rfl rfl k_) ?_
  show own_Goes p e below (T1.setTop (mkF m 4 #[.val (.ref xa)] [(.ref b1), (.ref b1)])) _
  refine own_go (fun t_ k_ => XS.aloadN X1.here hx rfl (hb hby own_d10_4) rfl rfl k_) ?_
  show own_Goes p e below (T1.setTop (mkF m 5 #[.val (.ref xa)] [(.ref xa), (.ref b1), (.ref b1)])) _
  have f5 := (P0.ext E1)
  obtain ⟨T6, X6, e6, st6⟩ := getF X1 hx hZ hown (host := "") (Or.inl (hw _ (List.mem_of_getElem? (i := 44) rfl))) Via.refl e1 f5 (g := (mkF m 5 #[.val (.ref xa)] [(.ref xa), (.ref b1), (.ref b1)])) rfl rfl (hb hby own_d10_5)
  refine own_go st6 ?_
  show own_Goes p e below (T6.setTop (mkF m 8 #[.val (.ref xa)] [x1, (.ref b1), (.ref b1)])) _
  refine own_go (fun t_ k_ => XS.aloadN X6.here hx rfl (hb hby own_d10_8) rfl rfl k_) ?_
  show own_Goes p e below (T6.setTop (mkF m 9 #[.val (.ref xa)] [(.ref xa), x1, (.ref b1), (.ref b1)])) _
  have f7 := (P1.ext E1)
  obtain ⟨T8, X8, e8, st8⟩ := getF X6 hx hZ hown (host := "") (Or.inl (hw _ (List.mem_of_getElem? (i := 46) rfl))) Via.refl e6 f7 (g := (mkF m 9 #[.val (.ref xa)] [(.ref xa), x1, (.ref b1), (.ref b1)])) rfl rfl (hb hby own_d10_9)
  refine own_go st8 ?_
  show own_Goes p e below (T8.setTop (mkF m 12 #[.val (.ref xa)] [x2, x1, (.ref b1), (.ref b1)])) _
  refine own_go (fun t_ k_ => XS.aloadN X8.here hx rfl (hb hby own_d10_12) rfl rfl k_) ?_
  show own_Goes p e below (T8.setTop (mkF m 13 #[.val (.ref xa)] [(.ref xa), x2, x1, (.ref b1), (.ref b1)])) _
  have f9 := (P2.ext E1)
  obtain ⟨T10, X10, e10, st10⟩ := getF X8 hx hZ hown (host := "") (Or.inl (hw _ (List.mem_of_getElem? (i := 48) rfl))) Via.refl e8 f9 (g := (mkF m 13 #[.val (.ref xa)] [(.ref xa), x2, x1, (.ref b1), (.ref b1)])) rfl rfl (hb hby own_d10_13)
  refine own_go st10 ?_
  show own_Goes p e below (T10.setTop (mkF m 16 #[.val (.ref xa)] [x3, x2, x1, (.ref b1), (.ref b1)])) _
  refine own_go (fun t_ k_ => XS.aloadN X10.here hx rfl (hb hby own_d10_16) rfl rfl k_) ?_
  show own_Goes p e below (T10.setTop (mkF m 17 #[.val (.ref xa)] [(.ref xa), x3, x2, x1, (.ref b1), (.ref b1)])) _
  have f11 := (P3.ext E1)
  obtain ⟨T12, X12, e12, st12⟩ := getF X10 hx hZ hown (host := "") (Or.inl (hw _ (List.mem_of_getElem? (i := 50) rfl))) Via.refl e10 f11 (g := (mkF m 17 #[.val (.ref xa)] [(.ref xa), x3, x2, x1, (.ref b1), (.ref b1)])) rfl rfl (hb hby own_d10_17)
  refine own_go st12 ?_
  show own_Goes p e below (T12.setTop (mkF m 20 #[.val (.ref xa)] [(.int xt), x3, x2, x1, (.ref b1), (.ref b1)])) _
  refine own_go (fun t_ k_ => XS.iconst X12.here hx rfl (hb hby own_d10_20) k_) ?_
  show own_Goes p e below (T12.setTop (mkF m 21 #[.val (.ref xa)] [(.int (1 : Int32)), (.int xt), x3, x2, x1, (.ref b1), (.ref b1)])) _
  refine own_go (fun t_ k_ => XS.aloadN X12.here hx rfl (hb hby own_d10_21) rfl rfl k_) ?_
  show own_Goes p e below (T12.setTop (mkF m 22 #[.val (.ref xa)] [(.ref xa), (.int (1 : Int32)), (.int xt), x3, x2, x1, (.ref b1), (.ref b1)])) _
  have f13 := (P5.ext E1)
  obtain ⟨T14, X14, e14, st14⟩ := getF X12 hx hZ hown (host := "") (Or.inl (hw _ (List.mem_of_getElem? (i := 54) rfl))) Via.refl e12 f13 (g := (mkF m 22 #[.val (.ref xa)] [(.ref xa), (.int (1 : Int32)), (.int xt), x3, x2, x1, (.ref b1), (.ref b1)])) rfl rfl (hb hby own_d10_22)
  refine own_go st14 ?_
  show own_Goes p e below (T14.setTop (mkF m 25 #[.val (.ref xa)] [.null, (.int (1 : Int32)), (.int xt), x3, x2, x1, (.ref b1), (.ref b1)])) _
  obtain ⟨_, _, ⟨T15, L15, k15, n15⟩, -, X15, ⟨Lc15, hQ15, l15, y15, z15⟩, st15⟩ := X14.specialBack hx (y := own_m2) rfl hown (mvT hZ (hw _ (List.mem_of_getElem? (i := 40) rfl))) (mvT hZ (hw _ (List.mem_of_getElem? (i := 41) rfl))) (mvT hZ (hw _ (List.mem_of_getElem? (i := 42) rfl))) (by decide) (backOf (W := 1) (own_rn6_1 l Z a0 hw [] b1 x1 x2 x3 xt h1 n0 O2 A1 F1_orderId F1_expireTime F1_productId F1_endsTrial F1_cancelsAPeriod F1_unfreezesOnlyAfter P6 P7 P8 (show n0 ≤ b1 by first | assumption | omega | decide) (show xt = 0 ∨ xt = 1 from P9)) hZ (hw _ (List.mem_of_getElem? (i := 42) rfl)) (hw _ (List.mem_of_getElem? (i := 36) rfl)) (by decide) (by decide)) (g := (mkF m 25 #[.val (.ref xa)] [.null, (.int (1 : Int32)), (.int xt), x3, x2, x1, (.ref b1), (.ref b1)])) rfl (by rw [hml]; rfl) (Steps.refl _) (a := b1) (argsL := [x1, x2, x3, (.int xt), (.int (1 : Int32)), .null]) (rest := [(.ref b1)]) (lenOf own_pd_1 rfl) rfl (by show 2 * 0 + _ ≤ _; exact Nat.le_of_eq rfl) (hb hby own_d10_25) (fun _ _ => ⟨rfl, e14, (by decide : 1 + 0 ≤ _), (by decide : 6 + 0 ≤ _)⟩)
  dsimp only [Pt.U, Pt.locs, Pt.cells, Pt.slots] at X15 l15 y15 z15 st15 hQ15
  subst l15 y15 z15
  obtain ⟨h15, e15⟩ : ∃ z, T15.heap = z := ⟨_, rfl⟩
  rw [e15] at hQ15
  obtain ⟨Nc15, Kc15, rfl, c15_0, c15_1, c15_2, c15_3, c15_4, c15_5⟩ := hQ15
  have N15 := Fr.app N0 Nc15
  have O16 := O2.keep Kc15 (allS (show n0 ≤ b1 by omega) all0)
  have sz17 : h1.size ≤ h15.size := Kc15.1
  have K18 := Keep.trans K4 Kc15 (allS (Or.inr (show h0.size ≤ b1 by omega)) all0)
  refine own_goS st15 ?_
  show own_Goes p e below (T15.setTop (mkF m 28 #[.val (.ref xa)] [(.ref b1)])) _
  refine own_endN X15 (v := (some (.ref b1))) (fun h => by rw [hret] at h; cases h) hlk (by decide) (by decide) ?_ (fun fs hr => retOut X15 hx hret rfl (Or.inr (Or.inr (Or.inr (Or.inr ⟨rfl, rfl, rfl⟩)))) (hb hby own_d10_28) hr)
  show Q_own_cap Z xa x1 x2 x3 xt h0 n0 _ T15.heap _
  rw [e15]
  have f19 := (A1.keep Kc15)
  exact ⟨N15, K18, b1, rfl, f19, c15_0, c15_1, c15_2, c15_3, c15_4, c15_5, (show h0.size ≤ b1 by first | assumption | omega | decide)⟩
theorem own_d11_0 : decode prog_15_method_5_code 0 = .ok (.aload_n 0, 1) := by decide +kernel
theorem own_d11_1 : decode prog_15_method_5_code 1 = .ok (.getfield 12, 3) := by decide +kernel
theorem own_d11_4 : decode prog_15_method_5_code 4 = .ok (.areturn, 1) := by decide +kernel
theorem own_ef_own_g_orderId (m : MethodId) (xa : Addr) : entryFrame m #[(.ref xa)] 1 = mkF m 0 #[.val (.ref xa)] [] := by first | (simp [entryFrame, mkF, argsToLocals, Value.category]; done) | rfl
def Q_own_g_orderId (Z : State) (xa : Addr) (xv : Value) (h0 : Heap) (n0 : Nat) (v : Option Value) (h : Heap) (L : List Loc) : Prop := Fr n0 L ∧ h = h0 ∧ v = some xv
set_option maxRecDepth 65536 in
set_option maxHeartbeats 40000000 in
theorem own_g_orderId (l : Launch) (Z : State) (a0 : Array Value) (hw : ∀ d ∈ tables_1, d.before a0 Z = true) (ws : List Jvm.Cond) (xa : Addr) (xv : Value) (h0 : Heap) (n0 : Nat) (O0 : Old Z n0 h0) (P0 : Fld Z h0 xa "com/example/saasy/saasy/ledger/Renewal" "orderId" "Ljava/lang/String;" xv) (P1 : xv.isRef = true) :
    MetFree l (⟨"com/example/saasy/saasy/ledger/Renewal", "orderId", "()Ljava/lang/String;"⟩ : MethodName) (head1 (Jvm.Cond.code (⟨"com/example/saasy/saasy/ledger/Renewal", "orderId", "()Ljava/lang/String;"⟩ : MethodName) prog_15_method_5_code 1 (some (.object "java/lang/String")) :: ws) ({ frames := 0, cells := 0, slots := 0, locals := 0 } : Room)) (fun as_ U_ => as_ = #[(.ref xa)] ∧ Z.Warmed39 U_.vm ∧ U_.heap = h0) (fun _ _ _ _ _ => True) (fun _ U_ o_ U2_ => ∃ v_ L_, o_ = .returned v_ ∧ Q_own_g_orderId Z xa xv h0 n0 v_ U2_.heap L_ ∧ FrameEnd U_ o_ U2_ L_ ({ frames := 0, cells := 0, slots := 0, locals := 0 } : Room).cells ({ frames := 0, cells := 0, slots := 0, locals := 0 } : Room).slots) := by
  refine MetFree.of_bodySF (plainFor_of_name own_pn_com_example_saasy_saasy_ledger_Renewal) hisR ?_
  intro p e s m args below meth c s₁ Bd hml0 hP hK
  obtain ⟨rfl, hZ, hh⟩ := hP
  have hx := Bd.exec
  have hby := Bd.bytes
  have hml : c.maxLocals = 1 := hml0
  have hown : s.vm.findClass "com/example/saasy/saasy/ledger/Renewal" = some m.cls := findClass_of_methodNamed Bd.named
  have hnm := (name_of_methodNamed Bd.named Bd.method).1
  have hlk : meth.locks = false := Bd.notSynchronized
  have hret := Bd.returns
  have X0 : Stand p l e ({ frames := 0, cells := 0, slots := 0, locals := 0 } : Room) s m #[(.ref xa)] below meth c s₁ [] 0 0 := Stand.of_body Bd
  have e0 : s₁.heap = h0 := by rw [← hh, Bd.state]; rfl
  have N0 := Fr.nil n0
  have z0 : Z.heap.size = n0 := O0.1
  have z1 : n0 ≤ h0.size := z0 ▸ O0.2.1
  show own_Goes p e below (s₁.setTop (entryFrame m #[(.ref xa)] 1)) (own_PostN s (Q_own_g_orderId Z xa xv h0 n0) ({ frames := 0, cells := 0, slots := 0, locals := 0 } : Room).cells ({ frames := 0, cells := 0, slots := 0, locals := 0 } : Room).slots)
  refine own_cast (own_ef_own_g_orderId m xa) ?_
  show own_Goes p e below (s₁.setTop (mkF m 0 #[.val (.ref xa)] [])) _
  refine own_go (fun t_ k_ => XS.aloadN X0.here hx rfl (hb hby own_d11_0) rfl rfl k_) ?_
  show own_Goes p e below (s₁.setTop (mkF m 1 #[.val (.ref xa)] [(.ref xa)])) _
  obtain ⟨T1, X1, e1, st1⟩ := getF X0 hx hZ hown (host := "") (Or.inl (hw _ (List.mem_of_getElem? (i := 44) rfl))) Via.refl e0 P0 (g := (mkF m 1 #[.val (.ref xa)] [(.ref xa)])) rfl rfl (hb hby own_d11_1)
  refine own_go st1 ?_
  show own_Goes p e below (T1.setTop (mkF m 4 #[.val (.ref xa)] [xv])) _
  refine own_endN X1 (v := (some xv)) (fun h => by rw [hret] at h; cases h) hlk (by decide) (by decide) ?_ (fun fs hr => retOut X1 hx hret (own_narR P1 rfl) (Or.inr (Or.inr (Or.inr (Or.inr ⟨rfl, rfl, P1⟩)))) (hb hby own_d11_4) hr)
  show Q_own_g_orderId Z xa xv h0 n0 _ T1.heap _
  rw [e1]
  exact ⟨N0, rfl, rfl⟩
theorem own_d13_0 : decode prog_15_method_6_code 0 = .ok (.aload_n 0, 1) := by decide +kernel
theorem own_d13_1 : decode prog_15_method_6_code 1 = .ok (.getfield 16, 3) := by decide +kernel
theorem own_d13_4 : decode prog_15_method_6_code 4 = .ok (.areturn, 1) := by decide +kernel
theorem own_ef_own_g_expireTime (m : MethodId) (xa : Addr) : entryFrame m #[(.ref xa)] 1 = mkF m 0 #[.val (.ref xa)] [] := by first | (simp [entryFrame, mkF, argsToLocals, Value.category]; done) | rfl
def Q_own_g_expireTime (Z : State) (xa : Addr) (xv : Value) (h0 : Heap) (n0 : Nat) (v : Option Value) (h : Heap) (L : List Loc) : Prop := Fr n0 L ∧ h = h0 ∧ v = some xv
set_option maxRecDepth 65536 in
set_option maxHeartbeats 40000000 in
theorem own_g_expireTime (l : Launch) (Z : State) (a0 : Array Value) (hw : ∀ d ∈ tables_1, d.before a0 Z = true) (ws : List Jvm.Cond) (xa : Addr) (xv : Value) (h0 : Heap) (n0 : Nat) (O0 : Old Z n0 h0) (P0 : Fld Z h0 xa "com/example/saasy/saasy/ledger/Renewal" "expireTime" "Ljava/lang/String;" xv) (P1 : xv.isRef = true) :
    MetFree l (⟨"com/example/saasy/saasy/ledger/Renewal", "expireTime", "()Ljava/lang/String;"⟩ : MethodName) (head1 (Jvm.Cond.code (⟨"com/example/saasy/saasy/ledger/Renewal", "expireTime", "()Ljava/lang/String;"⟩ : MethodName) prog_15_method_6_code 1 (some (.object "java/lang/String")) :: ws) ({ frames := 0, cells := 0, slots := 0, locals := 0 } : Room)) (fun as_ U_ => as_ = #[(.ref xa)] ∧ Z.Warmed39 U_.vm ∧ U_.heap = h0) (fun _ _ _ _ _ => True) (fun _ U_ o_ U2_ => ∃ v_ L_, o_ = .returned v_ ∧ Q_own_g_expireTime Z xa xv h0 n0 v_ U2_.heap L_ ∧ FrameEnd U_ o_ U2_ L_ ({ frames := 0, cells := 0, slots := 0, locals := 0 } : Room).cells ({ frames := 0, cells := 0, slots := 0, locals := 0 } : Room).slots) := by
  refine MetFree.of_bodySF (plainFor_of_name own_pn_com_example_saasy_saasy_ledger_Renewal) hisR ?_
  intro p e s m args below meth c s₁ Bd hml0 hP hK
  obtain ⟨rfl, hZ, hh⟩ := hP
  have hx := Bd.exec
  have hby := Bd.bytes
  have hml : c.maxLocals = 1 := hml0
  have hown : s.vm.findClass "com/example/saasy/saasy/ledger/Renewal" = some m.cls := findClass_of_methodNamed Bd.named
  have hnm := (name_of_methodNamed Bd.named Bd.method).1
  have hlk : meth.locks = false := Bd.notSynchronized
  have hret := Bd.returns
  have X0 : Stand p l e ({ frames := 0, cells := 0, slots := 0, locals := 0 } : Room) s m #[(.ref xa)] below meth c s₁ [] 0 0 := Stand.of_body Bd
  have e0 : s₁.heap = h0 := by rw [← hh, Bd.state]; rfl
  have N0 := Fr.nil n0
  have z0 : Z.heap.size = n0 := O0.1
  have z1 : n0 ≤ h0.size := z0 ▸ O0.2.1
  show own_Goes p e below (s₁.setTop (entryFrame m #[(.ref xa)] 1)) (own_PostN s (Q_own_g_expireTime Z xa xv h0 n0) ({ frames := 0, cells := 0, slots := 0, locals := 0 } : Room).cells ({ frames := 0, cells := 0, slots := 0, locals := 0 } : Room).slots)
  refine own_cast (own_ef_own_g_expireTime m xa) ?_
  show own_Goes p e below (s₁.setTop (mkF m 0 #[.val (.ref xa)] [])) _
  refine own_go (fun t_ k_ => XS.aloadN X0.here hx rfl (hb hby own_d13_0) rfl rfl k_) ?_
  show own_Goes p e below (s₁.setTop (mkF m 1 #[.val (.ref xa)] [(.ref xa)])) _
  obtain ⟨T1, X1, e1, st1⟩ := getF X0 hx hZ hown (host := "") (Or.inl (hw _ (List.mem_of_getElem? (i := 46) rfl))) Via.refl e0 P0 (g := (mkF m 1 #[.val (.ref xa)] [(.ref xa)])) rfl rfl (hb hby own_d13_1)
  refine own_go st1 ?_
  show own_Goes p e below (T1.setTop (mkF m 4 #[.val (.ref xa)] [xv])) _
  refine own_endN X1 (v := (some xv)) (fun h => by rw [hret] at h; cases h) hlk (by decide) (by decide) ?_ (fun fs hr => retOut X1 hx hret (own_narR P1 rfl) (Or.inr (Or.inr (Or.inr (Or.inr ⟨rfl, rfl, P1⟩)))) (hb hby own_d13_4) hr)
  show Q_own_g_expireTime Z xa xv h0 n0 _ T1.heap _
  rw [e1]
  exact ⟨N0, rfl, rfl⟩
theorem own_d15_0 : decode prog_15_method_7_code 0 = .ok (.aload_n 0, 1) := by decide +kernel
theorem own_d15_1 : decode prog_15_method_7_code 1 = .ok (.getfield 19, 3) := by decide +kernel
theorem own_d15_4 : decode prog_15_method_7_code 4 = .ok (.areturn, 1) := by decide +kernel
theorem own_ef_own_g_productId (m : MethodId) (xa : Addr) : entryFrame m #[(.ref xa)] 1 = mkF m 0 #[.val (.ref xa)] [] := by first | (simp [entryFrame, mkF, argsToLocals, Value.category]; done) | rfl
def Q_own_g_productId (Z : State) (xa : Addr) (xv : Value) (h0 : Heap) (n0 : Nat) (v : Option Value) (h : Heap) (L : List Loc) : Prop := Fr n0 L ∧ h = h0 ∧ v = some xv
set_option maxRecDepth 65536 in
set_option maxHeartbeats 40000000 in
theorem own_g_productId (l : Launch) (Z : State) (a0 : Array Value) (hw : ∀ d ∈ tables_1, d.before a0 Z = true) (ws : List Jvm.Cond) (xa : Addr) (xv : Value) (h0 : Heap) (n0 : Nat) (O0 : Old Z n0 h0) (P0 : Fld Z h0 xa "com/example/saasy/saasy/ledger/Renewal" "productId" "Ljava/lang/String;" xv) (P1 : xv.isRef = true) :
    MetFree l (⟨"com/example/saasy/saasy/ledger/Renewal", "productId", "()Ljava/lang/String;"⟩ : MethodName) (head1 (Jvm.Cond.code (⟨"com/example/saasy/saasy/ledger/Renewal", "productId", "()Ljava/lang/String;"⟩ : MethodName) prog_15_method_7_code 1 (some (.object "java/lang/String")) :: ws) ({ frames := 0, cells := 0, slots := 0, locals := 0 } : Room)) (fun as_ U_ => as_ = #[(.ref xa)] ∧ Z.Warmed39 U_.vm ∧ U_.heap = h0) (fun _ _ _ _ _ => True) (fun _ U_ o_ U2_ => ∃ v_ L_, o_ = .returned v_ ∧ Q_own_g_productId Z xa xv h0 n0 v_ U2_.heap L_ ∧ FrameEnd U_ o_ U2_ L_ ({ frames := 0, cells := 0, slots := 0, locals := 0 } : Room).cells ({ frames := 0, cells := 0, slots := 0, locals := 0 } : Room).slots) := by
  refine MetFree.of_bodySF (plainFor_of_name own_pn_com_example_saasy_saasy_ledger_Renewal) hisR ?_
  intro p e s m args below meth c s₁ Bd hml0 hP hK
  obtain ⟨rfl, hZ, hh⟩ := hP
  have hx := Bd.exec
  have hby := Bd.bytes
  have hml : c.maxLocals = 1 := hml0
  have hown : s.vm.findClass "com/example/saasy/saasy/ledger/Renewal" = some m.cls := findClass_of_methodNamed Bd.named
  have hnm := (name_of_methodNamed Bd.named Bd.method).1
  have hlk : meth.locks = false := Bd.notSynchronized
  have hret := Bd.returns
  have X0 : Stand p l e ({ frames := 0, cells := 0, slots := 0, locals := 0 } : Room) s m #[(.ref xa)] below meth c s₁ [] 0 0 := Stand.of_body Bd
  have e0 : s₁.heap = h0 := by rw [← hh, Bd.state]; rfl
  have N0 := Fr.nil n0
  have z0 : Z.heap.size = n0 := O0.1
  have z1 : n0 ≤ h0.size := z0 ▸ O0.2.1
  show own_Goes p e below (s₁.setTop (entryFrame m #[(.ref xa)] 1)) (own_PostN s (Q_own_g_productId Z xa xv h0 n0) ({ frames := 0, cells := 0, slots := 0, locals := 0 } : Room).cells ({ frames := 0, cells := 0, slots := 0, locals := 0 } : Room).slots)
  refine own_cast (own_ef_own_g_productId m xa) ?_
  show own_Goes p e below (s₁.setTop (mkF m 0 #[.val (.ref xa)] [])) _
  refine own_go (fun t_ k_ => XS.aloadN X0.here hx rfl (hb hby own_d15_0) rfl rfl k_) ?_
  show own_Goes p e below (s₁.setTop (mkF m 1 #[.val (.ref xa)] [(.ref xa)])) _
  obtain ⟨T1, X1, e1, st1⟩ := getF X0 hx hZ hown (host := "") (Or.inl (hw _ (List.mem_of_getElem? (i := 48) rfl))) Via.refl e0 P0 (g := (mkF m 1 #[.val (.ref xa)] [(.ref xa)])) rfl rfl (hb hby own_d15_1)
  refine own_go st1 ?_
  show own_Goes p e below (T1.setTop (mkF m 4 #[.val (.ref xa)] [xv])) _
  refine own_endN X1 (v := (some xv)) (fun h => by rw [hret] at h; cases h) hlk (by decide) (by decide) ?_ (fun fs hr => retOut X1 hx hret (own_narR P1 rfl) (Or.inr (Or.inr (Or.inr (Or.inr ⟨rfl, rfl, P1⟩)))) (hb hby own_d15_4) hr)
  show Q_own_g_productId Z xa xv h0 n0 _ T1.heap _
  rw [e1]
  exact ⟨N0, rfl, rfl⟩
theorem own_d16_0 : decode prog_15_method_8_code 0 = .ok (.aload_n 0, 1) := by decide +kernel
theorem own_d16_1 : decode prog_15_method_8_code 1 = .ok (.getfield 22, 3) := by decide +kernel
theorem own_d16_4 : decode prog_15_method_8_code 4 = .ok (.ireturn, 1) := by decide +kernel
theorem own_ef_own_et (m : MethodId) (xa : Addr) : entryFrame m #[(.ref xa)] 1 = mkF m 0 #[.val (.ref xa)] [] := by first | (simp [entryFrame, mkF, argsToLocals, Value.category]; done) | rfl
def Q_own_et (Z : State) (xa : Addr) (xv : Int32) (h0 : Heap) (n0 : Nat) (v : Option Value) (h : Heap) (L : List Loc) : Prop := Fr n0 L ∧ h = h0 ∧ v = some (.int xv)
set_option maxRecDepth 65536 in
set_option maxHeartbeats 40000000 in
theorem own_et (l : Launch) (Z : State) (a0 : Array Value) (hw : ∀ d ∈ tables_1, d.before a0 Z = true) (ws : List Jvm.Cond) (xa : Addr) (xv : Int32) (h0 : Heap) (n0 : Nat) (O0 : Old Z n0 h0) (P0 : Fld Z h0 xa "com/example/saasy/saasy/ledger/Renewal" "endsTrial" "Z" (.int xv)) (P1 : xv = 0 ∨ xv = 1) :
    MetFree l (⟨"com/example/saasy/saasy/ledger/Renewal", "endsTrial", "()Z"⟩ : MethodName) (head1 (Jvm.Cond.code (⟨"com/example/saasy/saasy/ledger/Renewal", "endsTrial", "()Z"⟩ : MethodName) prog_15_method_8_code 1 (some .boolean) :: ws) ({ frames := 0, cells := 0, slots := 0, locals := 0 } : Room)) (fun as_ U_ => as_ = #[(.ref xa)] ∧ Z.Warmed39 U_.vm ∧ U_.heap = h0) (fun _ _ _ _ _ => True) (fun _ U_ o_ U2_ => ∃ v_ L_, o_ = .returned v_ ∧ Q_own_et Z xa xv h0 n0 v_ U2_.heap L_ ∧ FrameEnd U_ o_ U2_ L_ ({ frames := 0, cells := 0, slots := 0, locals := 0 } : Room).cells ({ frames := 0, cells := 0, slots := 0, locals := 0 } : Room).slots) := by
  refine MetFree.of_bodySF (plainFor_of_name own_pn_com_example_saasy_saasy_ledger_Renewal) hisR ?_
  intro p e s m args below meth c s₁ Bd hml0 hP hK
  obtain ⟨rfl, hZ, hh⟩ := hP
  have hx := Bd.exec
  have hby := Bd.bytes
  have hml : c.maxLocals = 1 := hml0
  have hown : s.vm.findClass "com/example/saasy/saasy/ledger/Renewal" = some m.cls := findClass_of_methodNamed Bd.named
  have hnm := (name_of_methodNamed Bd.named Bd.method).1
  have hlk : meth.locks = false := Bd.notSynchronized
  have hret := Bd.returns
  have X0 : Stand p l e ({ frames := 0, cells := 0, slots := 0, locals := 0 } : Room) s m #[(.ref xa)] below meth c s₁ [] 0 0 := Stand.of_body Bd
  have e0 : s₁.heap = h0 := by rw [← hh, Bd.state]; rfl
  have N0 := Fr.nil n0
  have z0 : Z.heap.size = n0 := O0.1
  have z1 : n0 ≤ h0.size := z0 ▸ O0.2.1
  show own_Goes p e below (s₁.setTop (entryFrame m #[(.ref xa)] 1)) (own_PostN s (Q_own_et Z xa xv h0 n0) ({ frames := 0, cells := 0, slots := 0, locals := 0 } : Room).cells ({ frames := 0, cells := 0, slots := 0, locals := 0 } : Room).slots)
  refine own_cast (own_ef_own_et m xa) ?_
  show own_Goes p e below (s₁.setTop (mkF m 0 #[.val (.ref xa)] [])) _
  refine own_go (fun t_ k_ => XS.aloadN X0.here hx rfl (hb hby own_d16_0) rfl rfl k_) ?_
  show own_Goes p e below (s₁.setTop (mkF m 1 #[.val (.ref xa)] [(.ref xa)])) _
  obtain ⟨T1, X1, e1, st1⟩ := getF X0 hx hZ hown (host := "") (Or.inl (hw _ (List.mem_of_getElem? (i := 50) rfl))) Via.refl e0 P0 (g := (mkF m 1 #[.val (.ref xa)] [(.ref xa)])) rfl rfl (hb hby own_d16_1)
  refine own_go st1 ?_
  show own_Goes p e below (T1.setTop (mkF m 4 #[.val (.ref xa)] [(.int xv)])) _
  refine own_endN X1 (v := (some (.int xv))) (fun h => by rw [hret] at h; cases h) hlk (by decide) (by decide) ?_ (fun fs hr => retOut X1 hx hret (own_b01 P1) (Or.inl ⟨rfl, Or.inr (Or.inl rfl), _, rfl⟩) (hb hby own_d16_4) hr)
  show Q_own_et Z xa xv h0 n0 _ T1.heap _
  rw [e1]
  exact ⟨N0, rfl, rfl⟩
theorem own_d17_0 : decode prog_15_method_9_code 0 = .ok (.aload_n 0, 1) := by decide +kernel
theorem own_d17_1 : decode prog_15_method_9_code 1 = .ok (.getfield 26, 3) := by decide +kernel
theorem own_d17_4 : decode prog_15_method_9_code 4 = .ok (.ireturn, 1) := by decide +kernel
theorem own_ef_own_cp0 (m : MethodId) (xa : Addr) : entryFrame m #[(.ref xa)] 1 = mkF m 0 #[.val (.ref xa)] [] := by first | (simp [entryFrame, mkF, argsToLocals, Value.category]; done) | rfl
def Q_own_cp0 (Z : State) (xa : Addr) (h0 : Heap) (n0 : Nat) (v : Option Value) (h : Heap) (L : List Loc) : Prop := Fr n0 L ∧ h = h0 ∧ v = some (.int (0 : Int32))
set_option maxRecDepth 65536 in
set_option maxHeartbeats 40000000 in
theorem own_cp0 (l : Launch) (Z : State) (a0 : Array Value) (hw : ∀ d ∈ tables_1, d.before a0 Z = true) (ws : List Jvm.Cond) (xa : Addr) (h0 : Heap) (n0 : Nat) (O0 : Old Z n0 h0) (P0 : Fld Z h0 xa "com/example/saasy/saasy/ledger/Renewal" "cancelsAPeriod" "Z" (.int (0 : Int32))) :
    MetFree l (⟨"com/example/saasy/saasy/ledger/Renewal", "cancelsAPeriod", "()Z"⟩ : MethodName) (head1 (Jvm.Cond.code (⟨"com/example/saasy/saasy/ledger/Renewal", "cancelsAPeriod", "()Z"⟩ : MethodName) prog_15_method_9_code 1 (some .boolean) :: ws) ({ frames := 0, cells := 0, slots := 0, locals := 0 } : Room)) (fun as_ U_ => as_ = #[(.ref xa)] ∧ Z.Warmed39 U_.vm ∧ U_.heap = h0) (fun _ _ _ _ _ => True) (fun _ U_ o_ U2_ => ∃ v_ L_, o_ = .returned v_ ∧ Q_own_cp0 Z xa h0 n0 v_ U2_.heap L_ ∧ FrameEnd U_ o_ U2_ L_ ({ frames := 0, cells := 0, slots := 0, locals := 0 } : Room).cells ({ frames := 0, cells := 0, slots := 0, locals := 0 } : Room).slots) := by
  refine MetFree.of_bodySF (plainFor_of_name own_pn_com_example_saasy_saasy_ledger_Renewal) hisR ?_
  intro p e s m args below meth c s₁ Bd hml0 hP hK
  obtain ⟨rfl, hZ, hh⟩ := hP
  have hx := Bd.exec
  have hby := Bd.bytes
  have hml : c.maxLocals = 1 := hml0
  have hown : s.vm.findClass "com/example/saasy/saasy/ledger/Renewal" = some m.cls := findClass_of_methodNamed Bd.named
  have hnm := (name_of_methodNamed Bd.named Bd.method).1
  have hlk : meth.locks = false := Bd.notSynchronized
  have hret := Bd.returns
  have X0 : Stand p l e ({ frames := 0, cells := 0, slots := 0, locals := 0 } : Room) s m #[(.ref xa)] below meth c s₁ [] 0 0 := Stand.of_body Bd
  have e0 : s₁.heap = h0 := by rw [← hh, Bd.state]; rfl
  have N0 := Fr.nil n0
  have z0 : Z.heap.size = n0 := O0.1
  have z1 : n0 ≤ h0.size := z0 ▸ O0.2.1
  show own_Goes p e below (s₁.setTop (entryFrame m #[(.ref xa)] 1)) (own_PostN s (Q_own_cp0 Z xa h0 n0) ({ frames := 0, cells := 0, slots := 0, locals := 0 } : Room).cells ({ frames := 0, cells := 0, slots := 0, locals := 0 } : Room).slots)
  refine own_cast (own_ef_own_cp0 m xa) ?_
  show own_Goes p e below (s₁.setTop (mkF m 0 #[.val (.ref xa)] [])) _
  refine own_go (fun t_ k_ => XS.aloadN X0.here hx rfl (hb hby own_d17_0) rfl rfl k_) ?_
  show own_Goes p e below (s₁.setTop (mkF m 1 #[.val (.ref xa)] [(.ref xa)])) _
  obtain ⟨T1, X1, e1, st1⟩ := getF X0 hx hZ hown (host := "") (Or.inl (hw _ (List.mem_of_getElem? (i := 52) rfl))) Via.refl e0 P0 (g := (mkF m 1 #[.val (.ref xa)] [(.ref xa)])) rfl rfl (hb hby own_d17_1)
  refine own_go st1 ?_
  show own_Goes p e below (T1.setTop (mkF m 4 #[.val (.ref xa)] [(.int (0 : Int32))])) _
  refine own_endN X1 (v := (some (.int (0 : Int32)))) (fun h => by rw [hret] at h; cases h) hlk (by decide) (by decide) ?_ (fun fs hr => retOut X1 hx hret rfl (Or.inl ⟨rfl, Or.inr (Or.inl rfl), _, rfl⟩) (hb hby own_d17_4) hr)
  show Q_own_cp0 Z xa h0 n0 _ T1.heap _
  rw [e1]
  exact ⟨N0, rfl, rfl⟩
theorem own_ef_own_cp1 (m : MethodId) (xa : Addr) : entryFrame m #[(.ref xa)] 1 = mkF m 0 #[.val (.ref xa)] [] := by first | (simp [entryFrame, mkF, argsToLocals, Value.category]; done) | rfl
def Q_own_cp1 (Z : State) (xa : Addr) (h0 : Heap) (n0 : Nat) (v : Option Value) (h : Heap) (L : List Loc) : Prop := Fr n0 L ∧ h = h0 ∧ v = some (.int (1 : Int32))
set_option maxRecDepth 65536 in
set_option maxHeartbeats 40000000 in
theorem own_cp1 (l : Launch) (Z : State) (a0 : Array Value) (hw : ∀ d ∈ tables_1, d.before a0 Z = true) (ws : List Jvm.Cond) (xa : Addr) (h0 : Heap) (n0 : Nat) (O0 : Old Z n0 h0) (P0 : Fld Z h0 xa "com/example/saasy/saasy/ledger/Renewal" "cancelsAPeriod" "Z" (.int (1 : Int32))) :
    MetFree l (⟨"com/example/saasy/saasy/ledger/Renewal", "cancelsAPeriod", "()Z"⟩ : MethodName) (head1 (Jvm.Cond.code (⟨"com/example/saasy/saasy/ledger/Renewal", "cancelsAPeriod", "()Z"⟩ : MethodName) prog_15_method_9_code 1 (some .boolean) :: ws) ({ frames := 0, cells := 0, slots := 0, locals := 0 } : Room)) (fun as_ U_ => as_ = #[(.ref xa)] ∧ Z.Warmed39 U_.vm ∧ U_.heap = h0) (fun _ _ _ _ _ => True) (fun _ U_ o_ U2_ => ∃ v_ L_, o_ = .returned v_ ∧ Q_own_cp1 Z xa h0 n0 v_ U2_.heap L_ ∧ FrameEnd U_ o_ U2_ L_ ({ frames := 0, cells := 0, slots := 0, locals := 0 } : Room).cells ({ frames := 0, cells := 0, slots := 0, locals := 0 } : Room).slots) := by
  refine MetFree.of_bodySF (plainFor_of_name own_pn_com_example_saasy_saasy_ledger_Renewal) hisR ?_
  intro p e s m args below meth c s₁ Bd hml0 hP hK
  obtain ⟨rfl, hZ, hh⟩ := hP
  have hx := Bd.exec
  have hby := Bd.bytes
  have hml : c.maxLocals = 1 := hml0
  have hown : s.vm.findClass "com/example/saasy/saasy/ledger/Renewal" = some m.cls := findClass_of_methodNamed Bd.named
  have hnm := (name_of_methodNamed Bd.named Bd.method).1
  have hlk : meth.locks = false := Bd.notSynchronized
  have hret := Bd.returns
  have X0 : Stand p l e ({ frames := 0, cells := 0, slots := 0, locals := 0 } : Room) s m #[(.ref xa)] below meth c s₁ [] 0 0 := Stand.of_body Bd
  have e0 : s₁.heap = h0 := by rw [← hh, Bd.state]; rfl
  have N0 := Fr.nil n0
  have z0 : Z.heap.size = n0 := O0.1
  have z1 : n0 ≤ h0.size := z0 ▸ O0.2.1
  show own_Goes p e below (s₁.setTop (entryFrame m #[(.ref xa)] 1)) (own_PostN s (Q_own_cp1 Z xa h0 n0) ({ frames := 0, cells := 0, slots := 0, locals := 0 } : Room).cells ({ frames := 0, cells := 0, slots := 0, locals := 0 } : Room).slots)
  refine own_cast (own_ef_own_cp1 m xa) ?_
  show own_Goes p e below (s₁.setTop (mkF m 0 #[.val (.ref xa)] [])) _
  refine own_go (fun t_ k_ => XS.aloadN X0.here hx rfl (hb hby own_d17_0) rfl rfl k_) ?_
  show own_Goes p e below (s₁.setTop (mkF m 1 #[.val (.ref xa)] [(.ref xa)])) _
  obtain ⟨T1, X1, e1, st1⟩ := getF X0 hx hZ hown (host := "") (Or.inl (hw _ (List.mem_of_getElem? (i := 52) rfl))) Via.refl e0 P0 (g := (mkF m 1 #[.val (.ref xa)] [(.ref xa)])) rfl rfl (hb hby own_d17_1)
  refine own_go st1 ?_
  show own_Goes p e below (T1.setTop (mkF m 4 #[.val (.ref xa)] [(.int (1 : Int32))])) _
  refine own_endN X1 (v := (some (.int (1 : Int32)))) (fun h => by rw [hret] at h; cases h) hlk (by decide) (by decide) ?_ (fun fs hr => retOut X1 hx hret rfl (Or.inl ⟨rfl, Or.inr (Or.inl rfl), _, rfl⟩) (hb hby own_d17_4) hr)
  show Q_own_cp1 Z xa h0 n0 _ T1.heap _
  rw [e1]
  exact ⟨N0, rfl, rfl⟩
theorem own_d18_0 : decode prog_15_method_10_code 0 = .ok (.aload_n 0, 1) := by decide +kernel
theorem own_d18_1 : decode prog_15_method_10_code 1 = .ok (.getfield 29, 3) := by decide +kernel
theorem own_d18_4 : decode prog_15_method_10_code 4 = .ok (.ifnull 20, 3) := by decide +kernel
theorem own_d18_24 : decode prog_15_method_10_code 24 = .ok (.iconst 1, 1) := by decide +kernel
theorem own_d18_25 : decode prog_15_method_10_code 25 = .ok (.goto 4, 3) := by decide +kernel
theorem own_d18_29 : decode prog_15_method_10_code 29 = .ok (.ireturn, 1) := by decide +kernel
theorem own_ef_own_unf (m : MethodId) (xa : Addr) : entryFrame m #[(.ref xa)] 1 = mkF m 0 #[.val (.ref xa)] [] := by first | (simp [entryFrame, mkF, argsToLocals, Value.category]; done) | rfl
def Q_own_unf (Z : State) (xa : Addr) (h0 : Heap) (n0 : Nat) (v : Option Value) (h : Heap) (L : List Loc) : Prop := Fr n0 L ∧ h = h0 ∧ v = some (.int (1 : Int32))
set_option maxRecDepth 65536 in
set_option maxHeartbeats 40000000 in
theorem own_unf (l : Launch) (Z : State) (a0 : Array Value) (hw : ∀ d ∈ tables_1, d.before a0 Z = true) (ws : List Jvm.Cond) (xa : Addr) (h0 : Heap) (n0 : Nat) (O0 : Old Z n0 h0) (P0 : Fld Z h0 xa "com/example/saasy/saasy/ledger/Renewal" "unfreezesOnlyAfter" "Ljava/time/Instant;" .null) :
    MetFree l (⟨"com/example/saasy/saasy/ledger/Renewal", "unfreezes", "()Z"⟩ : MethodName) (head1 (Jvm.Cond.code (⟨"com/example/saasy/saasy/ledger/Renewal", "unfreezes", "()Z"⟩ : MethodName) prog_15_method_10_code 1 (some .boolean) :: ws) ({ frames := 0, cells := 0, slots := 0, locals := 0 } : Room)) (fun as_ U_ => as_ = #[(.ref xa)] ∧ Z.Warmed39 U_.vm ∧ U_.heap = h0) (fun _ _ _ _ _ => True) (fun _ U_ o_ U2_ => ∃ v_ L_, o_ = .returned v_ ∧ Q_own_unf Z xa h0 n0 v_ U2_.heap L_ ∧ FrameEnd U_ o_ U2_ L_ ({ frames := 0, cells := 0, slots := 0, locals := 0 } : Room).cells ({ frames := 0, cells := 0, slots := 0, locals := 0 } : Room).slots) := by
  refine MetFree.of_bodySF (plainFor_of_name own_pn_com_example_saasy_saasy_ledger_Renewal) hisR ?_
  intro p e s m args below meth c s₁ Bd hml0 hP hK
  obtain ⟨rfl, hZ, hh⟩ := hP
  have hx := Bd.exec
  have hby := Bd.bytes
  have hml : c.maxLocals = 1 := hml0
  have hown : s.vm.findClass "com/example/saasy/saasy/ledger/Renewal" = some m.cls := findClass_of_methodNamed Bd.named
  have hnm := (name_of_methodNamed Bd.named Bd.method).1
  have hlk : meth.locks = false := Bd.notSynchronized
  have hret := Bd.returns
  have X0 : Stand p l e ({ frames := 0, cells := 0, slots := 0, locals := 0 } : Room) s m #[(.ref xa)] below meth c s₁ [] 0 0 := Stand.of_body Bd
  have e0 : s₁.heap = h0 := by rw [← hh, Bd.state]; rfl
  have N0 := Fr.nil n0
  have z0 : Z.heap.size = n0 := O0.1
  have z1 : n0 ≤ h0.size := z0 ▸ O0.2.1
  show own_Goes p e below (s₁.setTop (entryFrame m #[(.ref xa)] 1)) (own_PostN s (Q_own_unf Z xa h0 n0) ({ frames := 0, cells := 0, slots := 0, locals := 0 } : Room).cells ({ frames := 0, cells := 0, slots := 0, locals := 0 } : Room).slots)
  refine own_cast (own_ef_own_unf m xa) ?_
  show own_Goes p e below (s₁.setTop (mkF m 0 #[.val (.ref xa)] [])) _
  refine own_go (fun t_ k_ => XS.aloadN X0.here hx rfl (hb hby own_d18_0) rfl rfl k_) ?_
  show own_Goes p e below (s₁.setTop (mkF m 1 #[.val (.ref xa)] [(.ref xa)])) _
  obtain ⟨T1, X1, e1, st1⟩ := getF X0 hx hZ hown (host := "") (Or.inl (hw _ (List.mem_of_getElem? (i := 54) rfl))) Via.refl e0 P0 (g := (mkF m 1 #[.val (.ref xa)] [(.ref xa)])) rfl rfl (hb hby own_d18_1)
  refine own_go st1 ?_
  show own_Goes p e below (T1.setTop (mkF m 4 #[.val (.ref xa)] [.null])) _
  refine own_go (fun t_ k_ => XS.ifnullYes X1.here hx rfl (pc0 := 4) (pc' := 24) rfl (hb hby own_d18_4) rfl (by decide) (by decide) k_) ?_
  show own_Goes p e below (T1.setTop (mkF m 24 #[.val (.ref xa)] [])) _
  refine own_go (fun t_ k_ => XS.iconst X1.here hx rfl (hb hby own_d18_24) k_) ?_
  show own_Goes p e below (T1.setTop (mkF m 25 #[.val (.ref xa)] [(.int (1 : Int32))])) _
  refine own_go (fun t_ k_ => XS.goto X1.here hx rfl (pc0 := 25) (pc' := 29) rfl (hb hby own_d18_25) (by decide) (by decide) k_) ?_
  show own_Goes p e below (T1.setTop (mkF m 29 #[.val (.ref xa)] [(.int (1 : Int32))])) _
  refine own_endN X1 (v := (some (.int (1 : Int32)))) (fun h => by rw [hret] at h; cases h) hlk (by decide) (by decide) ?_ (fun fs hr => retOut X1 hx hret rfl (Or.inl ⟨rfl, Or.inr (Or.inl rfl), _, rfl⟩) (hb hby own_d18_29) hr)
  show Q_own_unf Z xa h0 n0 _ T1.heap _
  rw [e1]
  exact ⟨N0, rfl, rfl⟩
theorem own_d14_0 : decode jdk_42_method_66_code 0 = .ok (.aload_n 0, 1) := by decide +kernel
theorem own_d14_1 : decode jdk_42_method_66_code 1 = .ok (.aload_n 1, 1) := by decide +kernel
theorem own_d14_2 : decode jdk_42_method_66_code 2 = .ok (.if_acmp .ne 5, 3) := by decide +kernel
theorem own_d14_5 : decode jdk_42_method_66_code 5 = .ok (.iconst 1, 1) := by decide +kernel
theorem own_d14_6 : decode jdk_42_method_66_code 6 = .ok (.ireturn, 1) := by decide +kernel
theorem own_pn_java_lang_String : plainName "java/lang/String" = true := by first | (simp [plainName, overriddenIn]; done) | decide +kernel
theorem own_ef_own_eqSelf (m : MethodId) (xa : Addr) : entryFrame m #[(.ref xa), (.ref xa)] 3 = mkF m 0 #[.val (.ref xa), .val (.ref xa), .unset] [] := by first | (simp [entryFrame, mkF, argsToLocals, Value.category]; done) | rfl
def Q_own_eqSelf (Z : State) (xa : Addr) (h0 : Heap) (n0 : Nat) (v : Option Value) (h : Heap) (L : List Loc) : Prop := Fr n0 L ∧ h = h0 ∧ v = some (.int (1 : Int32))
set_option maxRecDepth 65536 in
set_option maxHeartbeats 40000000 in
theorem own_eqSelf (l : Launch) (Z : State) (a0 : Array Value) (hw : ∀ d ∈ tables_1, d.before a0 Z = true) (ws : List Jvm.Cond) (xa : Addr) (h0 : Heap) (n0 : Nat) (O0 : Old Z n0 h0) :
    MetFree l (⟨"java/lang/String", "equals", "(Ljava/lang/Object;)Z"⟩ : MethodName) (head1 (Jvm.Cond.code (⟨"java/lang/String", "equals", "(Ljava/lang/Object;)Z"⟩ : MethodName) jdk_42_method_66_code 3 (some .boolean) :: ws) ({ frames := 0, cells := 0, slots := 0, locals := 0 } : Room)) (fun as_ U_ => as_ = #[(.ref xa), (.ref xa)] ∧ Z.Warmed39 U_.vm ∧ U_.heap = h0) (fun _ _ _ _ _ => True) (fun _ U_ o_ U2_ => ∃ v_ L_, o_ = .returned v_ ∧ Q_own_eqSelf Z xa h0 n0 v_ U2_.heap L_ ∧ FrameEnd U_ o_ U2_ L_ ({ frames := 0, cells := 0, slots := 0, locals := 0 } : Room).cells ({ frames := 0, cells := 0, slots := 0, locals := 0 } : Room).slots) := by
  refine MetFree.of_bodySF (plainFor_of_name own_pn_java_lang_String) hisR ?_
  intro p e s m args below meth c s₁ Bd hml0 hP hK
  obtain ⟨rfl, hZ, hh⟩ := hP
  have hx := Bd.exec
  have hby := Bd.bytes
  have hml : c.maxLocals = 3 := hml0
  have hown : s.vm.findClass "java/lang/String" = some m.cls := findClass_of_methodNamed Bd.named
  have hnm := (name_of_methodNamed Bd.named Bd.method).1
  have hlk : meth.locks = false := Bd.notSynchronized
  have hret := Bd.returns
  have X0 : Stand p l e ({ frames := 0, cells := 0, slots := 0, locals := 0 } : Room) s m #[(.ref xa), (.ref xa)] below meth c s₁ [] 0 0 := Stand.of_body Bd
  have e0 : s₁.heap = h0 := by rw [← hh, Bd.state]; rfl
  have N0 := Fr.nil n0
  have z0 : Z.heap.size = n0 := O0.1
  have z1 : n0 ≤ h0.size := z0 ▸ O0.2.1
  show own_Goes p e below (s₁.setTop (entryFrame m #[(.ref xa), (.ref xa)] 3)) (own_PostN s (Q_own_eqSelf Z xa h0 n0) ({ frames := 0, cells := 0, slots := 0, locals := 0 } : Room).cells ({ frames := 0, cells := 0, slots := 0, locals := 0 } : Room).slots)
  refine own_cast (own_ef_own_eqSelf m xa) ?_
  show own_Goes p e below (s₁.setTop (mkF m 0 #[.val (.ref xa), .val (.ref xa), .unset] [])) _
  refine own_go (fun t_ k_ => XS.aloadN X0.here hx rfl (hb hby own_d14_0) rfl rfl k_) ?_
  show own_Goes p e below (s₁.setTop (mkF m 1 #[.val (.ref xa), .val (.ref xa), .unset] [(.ref xa)])) _
  refine own_go (fun t_ k_ => XS.aloadN X0.here hx rfl (hb hby own_d14_1) rfl rfl k_) ?_
  show own_Goes p e below (s₁.setTop (mkF m 2 #[.val (.ref xa), .val (.ref xa), .unset] [(.ref xa), (.ref xa)])) _
  refine own_go (fun t_ k_ => Jvm.RoadKit.acmp (g := (mkF m 2 #[.val (.ref xa), .val (.ref xa), .unset] [(.ref xa), (.ref xa)])) X0 hx rfl rfl rfl (pc0 := 2) (pc' := 5) (same := true) rfl (hb hby own_d14_2) rfl (decide_eq_true rfl) (by decide) (by decide) k_) ?_
  show own_Goes p e below (s₁.setTop (mkF m 5 #[.val (.ref xa), .val (.ref xa), .unset] [])) _
  refine own_go (fun t_ k_ => XS.iconst X0.here hx rfl (hb hby own_d14_5) k_) ?_
  show own_Goes p e below (s₁.setTop (mkF m 6 #[.val (.ref xa), .val (.ref xa), .unset] [(.int (1 : Int32))])) _
  refine own_endN X0 (v := (some (.int (1 : Int32)))) (fun h => by rw [hret] at h; cases h) hlk (by decide) (by decide) ?_ (fun fs hr => retOut X0 hx hret rfl (Or.inl ⟨rfl, Or.inr (Or.inl rfl), _, rfl⟩) (hb hby own_d14_6) hr)
  show Q_own_eqSelf Z xa h0 n0 _ s₁.heap _
  rw [e0]
  exact ⟨N0, rfl, rfl⟩
theorem own_d12_0 : decode method_3_code 0 = .ok (.aload_n 0, 1) := by decide +kernel
theorem own_d12_1 : decode method_3_code 1 = .ok (.ifnonnull 13, 3) := by decide +kernel
theorem own_d12_4 : decode method_3_code 4 = .ok (.aload_n 1, 1) := by decide +kernel
theorem own_d12_5 : decode method_3_code 5 = .ok (.ifnonnull 7, 3) := by decide +kernel
theorem own_d12_8 : decode method_3_code 8 = .ok (.iconst 1, 1) := by decide +kernel
theorem own_d12_9 : decode method_3_code 9 = .ok (.goto 4, 3) := by decide +kernel
theorem own_d12_13 : decode method_3_code 13 = .ok (.ireturn, 1) := by decide +kernel
theorem own_d12_14 : decode method_3_code 14 = .ok (.aload_n 0, 1) := by decide +kernel
theorem own_d12_15 : decode method_3_code 15 = .ok (.aload_n 1, 1) := by decide +kernel
theorem own_d12_16 : decode method_3_code 16 = .ok (.invokevirtual 12, 3) := by decide +kernel
theorem own_pd_3 : parseMethodDescriptor "(Ljava/lang/Object;)Z" = some ⟨[(.object "java/lang/Object")], some .boolean⟩ := by decide +kernel
abbrev own_m4 : MethodName := ⟨"java/lang/String", "equals", "(Ljava/lang/Object;)Z"⟩
theorem own_d12_19 : decode method_3_code 19 = .ok (.ireturn, 1) := by decide +kernel
theorem own_ef_own_same (m : MethodId) (xv : Value) (hr_xv : xv.isRef = true) : entryFrame m #[xv, xv] 2 = mkF m 0 #[.val xv, .val xv] [] := by rcases ref_cases hr_xv with rfl | ⟨_, rfl⟩ <;> first | (simp [entryFrame, mkF, argsToLocals, Value.category]; done) | rfl
def Q_own_same (Z : State) (xv : Value) (h0 : Heap) (n0 : Nat) (v : Option Value) (h : Heap) (L : List Loc) : Prop := Fr n0 L ∧ h = h0 ∧ v = some (.int (1 : Int32))
set_option maxRecDepth 65536 in
set_option maxHeartbeats 40000000 in
theorem own_same (l : Launch) (Z : State) (a0 : Array Value) (hw : ∀ d ∈ tables_1, d.before a0 Z = true) (ws : List Jvm.Cond) (xv : Value) (h0 : Heap) (n0 : Nat) (O0 : Old Z n0 h0) (P0 : own_NS Z h0 xv) :
    MetFree l (⟨"com/example/saasy/saasy/ledger/RenewalCancellingAPeriodPinLaw", "same", "(Ljava/lang/String;Ljava/lang/String;)Z"⟩ : MethodName) (head1 (Jvm.Cond.code (⟨"com/example/saasy/saasy/ledger/RenewalCancellingAPeriodPinLaw", "same", "(Ljava/lang/String;Ljava/lang/String;)Z"⟩ : MethodName) method_3_code 2 (some .boolean) :: ws) ({ frames := 1, cells := 0, slots := 0, locals := 14 } : Room)) (fun as_ U_ => as_ = #[xv, xv] ∧ Z.Warmed39 U_.vm ∧ U_.heap = h0) (fun _ _ _ _ _ => True) (fun _ U_ o_ U2_ => ∃ v_ L_, o_ = .returned v_ ∧ Q_own_same Z xv h0 n0 v_ U2_.heap L_ ∧ FrameEnd U_ o_ U2_ L_ ({ frames := 1, cells := 0, slots := 0, locals := 14 } : Room).cells ({ frames := 1, cells := 0, slots := 0, locals := 14 } : Room).slots) := by
  refine MetFree.of_bodySF (plainFor_of_name own_pn_com_example_saasy_saasy_ledger_RenewalCancellingAPeriodPinLaw) hisR ?_
  intro p e s m args below meth c s₁ Bd hml0 hP hK
  obtain ⟨rfl, hZ, hh⟩ := hP
  have hx := Bd.exec
  have hby := Bd.bytes
  have hml : c.maxLocals = 2 := hml0
  have hown : s.vm.findClass "com/example/saasy/saasy/ledger/RenewalCancellingAPeriodPinLaw" = some m.cls := findClass_of_methodNamed Bd.named
  have hnm := (name_of_methodNamed Bd.named Bd.method).1
  have hlk : meth.locks = false := Bd.notSynchronized
  have hret := Bd.returns
  have X0 : Stand p l e ({ frames := 1, cells := 0, slots := 0, locals := 14 } : Room) s m #[xv, xv] below meth c s₁ [] 0 0 := Stand.of_body Bd
  have e0 : s₁.heap = h0 := by rw [← hh, Bd.state]; rfl
  have N0 := Fr.nil n0
  have z0 : Z.heap.size = n0 := O0.1
  have z1 : n0 ≤ h0.size := z0 ▸ O0.2.1
  show own_Goes p e below (s₁.setTop (entryFrame m #[xv, xv] 2)) (own_PostN s (Q_own_same Z xv h0 n0) ({ frames := 1, cells := 0, slots := 0, locals := 14 } : Room).cells ({ frames := 1, cells := 0, slots := 0, locals := 14 } : Room).slots)
  refine own_cast (own_ef_own_same m xv P0.isRef) ?_
  show own_Goes p e below (s₁.setTop (mkF m 0 #[.val xv, .val xv] [])) _
  rcases P0 with rfl | ⟨sa1, rfl, hsa1⟩
  · show own_Goes p e below (s₁.setTop (mkF m 0 #[.val .null, .val .null] [])) _
    refine own_go (fun t_ k_ => XS.aloadN X0.here hx rfl (hb hby own_d12_0) rfl rfl k_) ?_
    show own_Goes p e below (s₁.setTop (mkF m 1 #[.val .null, .val .null] [.null])) _
    refine own_go (fun t_ k_ => XS.ifnonnullNo X0.here hx rfl (hb hby own_d12_1) rfl k_) ?_
    show own_Goes p e below (s₁.setTop (mkF m 4 #[.val .null, .val .null] [])) _
    refine own_go (fun t_ k_ => XS.aloadN X0.here hx rfl (hb hby own_d12_4) rfl rfl k_) ?_
    show own_Goes p e below (s₁.setTop (mkF m 5 #[.val .null, .val .null] [.null])) _
    refine own_go (fun t_ k_ => XS.ifnonnullNo X0.here hx rfl (hb hby own_d12_5) rfl k_) ?_
    show own_Goes p e below (s₁.setTop (mkF m 8 #[.val .null, .val .null] [])) _
    refine own_go (fun t_ k_ => XS.iconst X0.here hx rfl (hb hby own_d12_8) k_) ?_
    show own_Goes p e below (s₁.setTop (mkF m 9 #[.val .null, .val .null] [(.int (1 : Int32))])) _
    refine own_go (fun t_ k_ => XS.goto X0.here hx rfl (pc0 := 9) (pc' := 13) rfl (hb hby own_d12_9) (by decide) (by decide) k_) ?_
    show own_Goes p e below (s₁.setTop (mkF m 13 #[.val .null, .val .null] [(.int (1 : Int32))])) _
    refine own_endN X0 (v := (some (.int (1 : Int32)))) (fun h => by rw [hret] at h; cases h) hlk (by decide) (by decide) ?_ (fun fs hr => retOut X0 hx hret rfl (Or.inl ⟨rfl, Or.inr (Or.inl rfl), _, rfl⟩) (hb hby own_d12_13) hr)
    show Q_own_same Z .null h0 n0 _ s₁.heap _
    rw [e0]
    exact ⟨N0, rfl, rfl⟩
  · show own_Goes p e below (s₁.setTop (mkF m 0 #[.val (.ref sa1), .val (.ref sa1)] [])) _
    refine own_go (fun t_ k_ => XS.aloadN X0.here hx rfl (hb hby own_d12_0) rfl rfl k_) ?_
    show own_Goes p e below (s₁.setTop (mkF m 1 #[.val (.ref sa1), .val (.ref sa1)] [(.ref sa1)])) _
    refine own_go (fun t_ k_ => XS.ifnonnullYes X0.here hx rfl (pc0 := 1) (pc' := 14) rfl (hb hby own_d12_1) rfl (by decide) (by decide) k_) ?_
    show own_Goes p e below (s₁.setTop (mkF m 14 #[.val (.ref sa1), .val (.ref sa1)] [])) _
    refine own_go (fun t_ k_ => XS.aloadN X0.here hx rfl (hb hby own_d12_14) rfl rfl k_) ?_
    show own_Goes p e below (s₁.setTop (mkF m 15 #[.val (.ref sa1), .val (.ref sa1)] [(.ref sa1)])) _
    refine own_go (fun t_ k_ => XS.aloadN X0.here hx rfl (hb hby own_d12_15) rfl rfl k_) ?_
    show own_Goes p e below (s₁.setTop (mkF m 16 #[.val (.ref sa1), .val (.ref sa1)] [(.ref sa1), (.ref sa1)])) _
    obtain ⟨cqiv2, kqiv2, qiv2a, qiv2b, qiv2c⟩ := isOf hZ e0 hsa1
    obtain ⟨_, _, ⟨T3, L3, k3, n3⟩, -, X3, ⟨Lc3, hQ3, l3, y3, z3⟩, st3⟩ := X0.virtualBack hx (y := own_m4) (z := own_m4) hown (mvT hZ (hw _ (List.mem_of_getElem? (i := 75) rfl))) (mvT hZ (hw _ (List.mem_of_getElem? (i := 76) rfl))) (notFace_of_selects (args := #[]) (mvT hZ (hw _ (List.mem_of_getElem? (i := 78) rfl)))) (mvT hZ (hw _ (List.mem_of_getElem? (i := 78) rfl))) (mvT hZ (hw _ (List.mem_of_getElem? (i := 77) rfl))) (by decide) (backOf (W := 0) (own_eqSelf l Z a0 hw [] sa1 h0 n0 O0) hZ (hw _ (List.mem_of_getElem? (i := 79) rfl)) (hw _ (List.mem_of_getElem? (i := 7) rfl)) (by decide) (by decide)) qiv2a qiv2c (g := (mkF m 16 #[.val (.ref sa1), .val (.ref sa1)] [(.ref sa1), (.ref sa1)])) rfl (by rw [hml]; rfl) (Steps.refl _) (argsL := [(.ref sa1)]) (rest := []) (lenOf own_pd_3 rfl) rfl (by show 2 * 0 + _ ≤ _; exact Nat.le_of_eq rfl) (hb hby own_d12_16) (fun _ _ => ⟨rfl, e0, (by decide : 0 + 0 ≤ _), (by decide : 0 + 0 ≤ _)⟩)
    dsimp only [Pt.U, Pt.locs, Pt.cells, Pt.slots] at X3 l3 y3 z3 st3 hQ3
    subst l3 y3 z3
    obtain ⟨Nc3, e3, rfl⟩ := hQ3
    have N3 := Fr.app N0 Nc3
    refine own_goS st3 ?_
    show own_Goes p e below (T3.setTop (mkF m 19 #[.val (.ref sa1), .val (.ref sa1)] [(.int (1 : Int32))])) _
    refine own_endN X3 (v := (some (.int (1 : Int32)))) (fun h => by rw [hret] at h; cases h) hlk (by decide) (by decide) ?_ (fun fs hr => retOut X3 hx hret rfl (Or.inl ⟨rfl, Or.inr (Or.inl rfl), _, rfl⟩) (hb hby own_d12_19) hr)
    show Q_own_same Z (.ref sa1) h0 n0 _ T3.heap _
    rw [e3]
    exact ⟨N3, rfl, rfl⟩
theorem own_pd_5 : parseMethodDescriptor "(IZ)Ljava/lang/String;" = some ⟨[.int, .boolean], some (.object "java/lang/String")⟩ := by decide +kernel
abbrev own_m6 : MethodName := ⟨"com/example/saasy/saasy/ledger/RenewalCancellingAPeriodPinLaw", "str", "(IZ)Ljava/lang/String;"⟩
theorem own_pd_7 : parseMethodDescriptor "(Ljava/lang/String;Ljava/lang/String;Ljava/lang/String;Z)V" = some ⟨[(.object "java/lang/String"), (.object "java/lang/String"), (.object "java/lang/String"), .boolean], none⟩ := by decide +kernel
abbrev own_m8 : MethodName := ⟨"com/example/saasy/saasy/ledger/Renewal", "<init>", "(Ljava/lang/String;Ljava/lang/String;Ljava/lang/String;Z)V"⟩
theorem own_pd_9 : parseMethodDescriptor "()Lcom/example/saasy/saasy/ledger/Renewal;" = some ⟨[], some (.object "com/example/saasy/saasy/ledger/Renewal")⟩ := by decide +kernel
abbrev own_m10 : MethodName := ⟨"com/example/saasy/saasy/ledger/Renewal", "cancellingAPeriod", "()Lcom/example/saasy/saasy/ledger/Renewal;"⟩
theorem own_pd_11 : parseMethodDescriptor "()Ljava/lang/String;" = some ⟨[], some (.object "java/lang/String")⟩ := by decide +kernel
abbrev own_m12 : MethodName := ⟨"com/example/saasy/saasy/ledger/Renewal", "orderId", "()Ljava/lang/String;"⟩
theorem own_pd_13 : parseMethodDescriptor "(Ljava/lang/String;Ljava/lang/String;)Z" = some ⟨[(.object "java/lang/String"), (.object "java/lang/String")], some .boolean⟩ := by decide +kernel
abbrev own_m14 : MethodName := ⟨"com/example/saasy/saasy/ledger/RenewalCancellingAPeriodPinLaw", "same", "(Ljava/lang/String;Ljava/lang/String;)Z"⟩
abbrev own_m15 : MethodName := ⟨"com/example/saasy/saasy/ledger/Renewal", "expireTime", "()Ljava/lang/String;"⟩
abbrev own_m16 : MethodName := ⟨"com/example/saasy/saasy/ledger/Renewal", "productId", "()Ljava/lang/String;"⟩
theorem own_pd_17 : parseMethodDescriptor "()Z" = some ⟨[], some .boolean⟩ := by decide +kernel
abbrev own_m18 : MethodName := ⟨"com/example/saasy/saasy/ledger/Renewal", "endsTrial", "()Z"⟩
abbrev own_m19 : MethodName := ⟨"com/example/saasy/saasy/ledger/Renewal", "cancelsAPeriod", "()Z"⟩
abbrev own_m20 : MethodName := ⟨"com/example/saasy/saasy/ledger/Renewal", "unfreezes", "()Z"⟩
theorem own_ef_rm0 (m : MethodId) (x0 : Int32) (x1 : Int32) (x2 : Int32) (x3 : Int32) : entryFrame m #[(.int x0), (.int x1), (.int x2), (.int x3)] maxLocals = mkF m 0 #[.val (.int x0), .val (.int x1), .val (.int x2), .val (.int x3), .unset, .unset, .unset, .unset, .unset, .unset, .unset, .unset, .unset] [] := by first | (simp [entryFrame, mkF, argsToLocals, Value.category, maxLocals]; done) | rfl
def Q_rm0 (Z : State) (x0 : Int32) (x1 : Int32) (x2 : Int32) (x3 : Int32) (gz : Int32) (h0 : Heap) (n0 : Nat) (v : Option Value) (h : Heap) (L : List Loc) : Prop := Fr n0 L ∧ True ∧ v = some (.int (1 : Int32))
set_option maxRecDepth 65536 in
set_option maxHeartbeats 40000000 in
theorem rm0 (l : Launch) (Z : State) (a0 : Array Value) (hw : ∀ d ∈ tables_1, d.before a0 Z = true) (ws : List Jvm.Cond) (x0 : Int32) (x1 : Int32) (x2 : Int32) (x3 : Int32) (h0 : Heap) (n0 : Nat) (O0 : Old Z n0 h0) (gz : Int32) (G : GG Z gz) :
    MetFree l x (head1 (Jvm.Cond.code x code maxLocals ret :: ws) room_1) (fun as_ U_ => as_ = #[(.int x0), (.int x1), (.int x2), (.int x3)] ∧ Z.Warmed39 U_.vm ∧ U_.heap = h0) (fun _ _ _ _ _ => True) (fun _ U_ o_ U2_ => ∃ v_ L_, o_ = .returned v_ ∧ Q_rm0 Z x0 x1 x2 x3 gz h0 n0 v_ U2_.heap L_ ∧ FrameEnd U_ o_ U2_ L_ room_1.cells room_1.slots) := by
  refine MetFree.of_bodySF (plainFor_of_name own_pn_com_example_saasy_saasy_ledger_RenewalCancellingAPeriodPinLaw) hisR ?_
  intro p e s m args below meth c s₁ Bd hml0 hP hK
  obtain ⟨rfl, hZ, hh⟩ := hP
  have hx := Bd.exec
  have hby := Bd.bytes
  have hml : c.maxLocals = 13 := hml0
  have hown : s.vm.findClass "com/example/saasy/saasy/ledger/RenewalCancellingAPeriodPinLaw" = some m.cls := findClass_of_methodNamed Bd.named
  have hnm := (name_of_methodNamed Bd.named Bd.method).1
  have hlk : meth.locks = false := Bd.notSynchronized
  have hret := Bd.returns
  have X0 : Stand p l e room_1 s m #[(.int x0), (.int x1), (.int x2), (.int x3)] below meth c s₁ [] 0 0 := Stand.of_body Bd
  have e0 : s₁.heap = h0 := by rw [← hh, Bd.state]; rfl
  have N0 := Fr.nil n0
  have z0 : Z.heap.size = n0 := O0.1
  have z1 : n0 ≤ h0.size := z0 ▸ O0.2.1
  show own_Goes p e below (s₁.setTop (entryFrame m #[(.int x0), (.int x1), (.int x2), (.int x3)] maxLocals)) (own_PostN s (Q_rm0 Z x0 x1 x2 x3 gz h0 n0) room_1.cells room_1.slots)
  refine own_cast (own_ef_rm0 m x0 x1 x2 x3) ?_
  show own_Goes p e below (s₁.setTop (mkF m 0 #[.val (.int x0), .val (.int x1), .val (.int x2), .val (.int x3), .unset, .unset, .unset, .unset, .unset, .unset, .unset, .unset, .unset] [])) _
  obtain ⟨G0, G1⟩ := id G
  refine own_go (fun t_ k_ => XS.iloadN X0.here hx rfl (hb hby at_0) rfl k_) ?_
  show own_Goes p e below (s₁.setTop (mkF m 1 #[.val (.int x0), .val (.int x1), .val (.int x2), .val (.int x3), .unset, .unset, .unset, .unset, .unset, .unset, .unset, .unset, .unset] [(.int x0)])) _
  refine own_go (fun t_ k_ => XS.iloadN X0.here hx rfl (hb hby at_1) rfl k_) ?_
  show own_Goes p e below (s₁.setTop (mkF m 2 #[.val (.int x0), .val (.int x1), .val (.int x2), .val (.int x3), .unset, .unset, .unset, .unset, .unset, .unset, .unset, .unset, .unset] [(.int x3), (.int x0)])) _
  refine own_go (fun t_ k_ => XS.iconst X0.here hx rfl (hb hby at_2) k_) ?_
  show own_Goes p e below (s₁.setTop (mkF m 3 #[.val (.int x0), .val (.int x1), .val (.int x2), .val (.int x3), .unset, .unset, .unset, .unset, .unset, .unset, .unset, .unset, .unset] [(.int (1 : Int32)), (.int x3), (.int x0)])) _
  refine own_go (fun t_ k_ => XS.iand X0.here hx rfl (hb hby at_3) rfl k_) ?_
  show own_Goes p e below (s₁.setTop (mkF m 4 #[.val (.int x0), .val (.int x1), .val (.int x2), .val (.int x3), .unset, .unset, .unset, .unset, .unset, .unset, .unset, .unset, .unset] [(.int (x3 &&& (1 : Int32))), (.int x0)])) _
  have Jz1 : ∀ z1 : Int32, (z1 = 1 ∧ ¬ ((x3 &&& (1 : Int32)) = (0 : Int32))) ∨ (z1 = 0 ∧ ((x3 &&& (1 : Int32)) = (0 : Int32))) → own_Goes p e below (s₁.setTop (mkF m 12 #[.val (.int x0), .val (.int x1), .val (.int x2), .val (.int x3), .unset, .unset, .unset, .unset, .unset, .unset, .unset, .unset, .unset] [(.int z1), (.int x0)])) (own_PostN s (Q_rm0 Z x0 x1 x2 x3 gz h0 n0) room_1.cells room_1.slots) := by
    intro z1 hbz1
    show own_Goes p e below (s₁.setTop (mkF m 12 #[.val (.int x0), .val (.int x1), .val (.int x2), .val (.int x3), .unset, .unset, .unset, .unset, .unset, .unset, .unset, .unset, .unset] [(.int z1), (.int x0)])) _
    obtain ⟨_, _, ⟨T2, L2, k2, n2⟩, -, X2, ⟨Lc2, hQ2, l2, y2, z2⟩, st2⟩ := Jvm.LawKit.callS X0 hx (y := own_m6) hown (mvT hZ (hw _ (List.mem_of_getElem? (i := 0) rfl))) (mvT hZ (hw _ (List.mem_of_getElem? (i := 1) rfl))) (mvT hZ (hw _ (List.mem_of_getElem? (i := 2) rfl))) (mvT hZ (hw _ (List.mem_of_getElem? (i := 3) rfl))) (by decide) (backOf (W := 0) (own_str l Z a0 hw [] x0 z1 h0 n0 O0 gz G) hZ (hw _ (List.mem_of_getElem? (i := 3) rfl)) (hw _ (List.mem_of_getElem? (i := 2) rfl)) (by decide) (by decide)) (g := (mkF m 12 #[.val (.int x0), .val (.int x1), .val (.int x2), .val (.int x3), .unset, .unset, .unset, .unset, .unset, .unset, .unset, .unset, .unset] [(.int z1), (.int x0)])) rfl (by rw [hml]; rfl) (argsL := [(.int x0), (.int z1)]) (rest := []) (lenOf own_pd_5 rfl) rfl (by show 2 * 0 + _ ≤ _; exact Nat.le_of_eq rfl) (hb hby at_12) (fun _ _ => ⟨rfl, e0, (by decide : 0 + 3 ≤ _), (by decide : 0 + 8 ≤ _)⟩)
    dsimp only [Pt.U, Pt.locs, Pt.cells, Pt.slots] at X2 l2 y2 z2 st2 hQ2
    subst l2 y2 z2
    obtain ⟨h2, e2⟩ : ∃ z, T2.heap = z := ⟨_, rfl⟩
    rw [e2] at hQ2
    obtain ⟨Nc2, Kc2, r_2, rfl, c2_0⟩ := hQ2
    have N2 := Fr.app N0 Nc2
    have O3 := O0.keep Kc2 all0
    have sz4 : h0.size ≤ h2.size := Kc2.1
    refine own_go st2 ?_
    show own_Goes p e below (T2.setTop (mkF m 15 #[.val (.int x0), .val (.int x1), .val (.int x2), .val (.int x3), .unset, .unset, .unset, .unset, .unset, .unset, .unset, .unset, .unset] [r_2])) _
    refine own_go (fun t_ k_ => XS.astore X2.here hx rfl (hb hby at_15) rfl c2_0.isRef (l' := #[.val (.int x0), .val (.int x1), .val (.int x2), .val (.int x3), .val r_2, .unset, .unset, .unset, .unset, .unset, .unset, .unset, .unset]) (XS.store1 (o := .unset) rfl (Or.inl rfl) (XT.cat1 c2_0.isRef)) k_) ?_
    show own_Goes p e below (T2.setTop (mkF m 17 #[.val (.int x0), .val (.int x1), .val (.int x2), .val (.int x3), .val r_2, .unset, .unset, .unset, .unset, .unset, .unset, .unset, .unset] [])) _
    refine own_go (fun t_ k_ => XS.iloadN X2.here hx rfl (hb hby at_17) rfl k_) ?_
    show own_Goes p e below (T2.setTop (mkF m 18 #[.val (.int x0), .val (.int x1), .val (.int x2), .val (.int x3), .val r_2, .unset, .unset, .unset, .unset, .unset, .unset, .unset, .unset] [(.int x1)])) _
    refine own_go (fun t_ k_ => XS.iloadN X2.here hx rfl (hb hby at_18) rfl k_) ?_
    show own_Goes p e below (T2.setTop (mkF m 19 #[.val (.int x0), .val (.int x1), .val (.int x2), .val (.int x3), .val r_2, .unset, .unset, .unset, .unset, .unset, .unset, .unset, .unset] [(.int x3), (.int x1)])) _
    refine own_go (fun t_ k_ => XS.iconst X2.here hx rfl (hb hby at_19) k_) ?_
    show own_Goes p e below (T2.setTop (mkF m 20 #[.val (.int x0), .val (.int x1), .val (.int x2), .val (.int x3), .val r_2, .unset, .unset, .unset, .unset, .unset, .unset, .unset, .unset] [(.int (2 : Int32)), (.int x3), (.int x1)])) _
    refine own_go (fun t_ k_ => XS.iand X2.here hx rfl (hb hby at_20) rfl k_) ?_
    show own_Goes p e below (T2.setTop (mkF m 21 #[.val (.int x0), .val (.int x1), .val (.int x2), .val (.int x3), .val r_2, .unset, .unset, .unset, .unset, .unset, .unset, .unset, .unset] [(.int (x3 &&& (2 : Int32))), (.int x1)])) _
    have Jz5 : ∀ z5 : Int32, (z5 = 1 ∧ ¬ ((x3 &&& (2 : Int32)) = (0 : Int32))) ∨ (z5 = 0 ∧ ((x3 &&& (2 : Int32)) = (0 : Int32))) → own_Goes p e below (T2.setTop (mkF m 29 #[.val (.int x0), .val (.int x1), .val (.int x2), .val (.int x3), .val r_2, .unset, .unset, .unset, .unset, .unset, .unset, .unset, .unset] [(.int z5), (.int x1)])) (own_PostN s (Q_rm0 Z x0 x1 x2 x3 gz h0 n0) room_1.cells room_1.slots) := by
      intro z5 hbz5
      show own_Goes p e below (T2.setTop (mkF m 29 #[.val (.int x0), .val (.int x1), .val (.int x2), .val (.int x3), .val r_2, .unset, .unset, .unset, .unset, .unset, .unset, .unset, .unset] [(.int z5), (.int x1)])) _
      obtain ⟨_, _, ⟨T6, L6, k6, n6⟩, -, X6, ⟨Lc6, hQ6, l6, y6, z6⟩, st6⟩ := Jvm.LawKit.callS X2 hx (y := own_m6) hown (mvT hZ (hw _ (List.mem_of_getElem? (i := 0) rfl))) (mvT hZ (hw _ (List.mem_of_getElem? (i := 1) rfl))) (mvT hZ (hw _ (List.mem_of_getElem? (i := 2) rfl))) (mvT hZ (hw _ (List.mem_of_getElem? (i := 3) rfl))) (by decide) (backOf (W := 0) (own_str l Z a0 hw [] x1 z5 h2 n0 O3 gz G) hZ (hw _ (List.mem_of_getElem? (i := 3) rfl)) (hw _ (List.mem_of_getElem? (i := 2) rfl)) (by decide) (by decide)) (g := (mkF m 29 #[.val (.int x0), .val (.int x1), .val (.int x2), .val (.int x3), .val r_2, .unset, .unset, .unset, .unset, .unset, .unset, .unset, .unset] [(.int z5), (.int x1)])) rfl (by rw [hml]; rfl) (argsL := [(.int x1), (.int z5)]) (rest := []) (lenOf own_pd_5 rfl) rfl (by show 2 * 0 + _ ≤ _; exact Nat.le_of_eq rfl) (hb hby at_29) (fun _ _ => ⟨rfl, e2, (by decide : 3 + 3 ≤ _), (by decide : 8 + 8 ≤ _)⟩)
      dsimp only [Pt.U, Pt.locs, Pt.cells, Pt.slots] at X6 l6 y6 z6 st6 hQ6
      subst l6 y6 z6
      obtain ⟨h6, e6⟩ : ∃ z, T6.heap = z := ⟨_, rfl⟩
      rw [e6] at hQ6
      obtain ⟨Nc6, Kc6, r_6, rfl, c6_0⟩ := hQ6
      have N6 := Fr.app N2 Nc6
      have O7 := O3.keep Kc6 all0
      have sz8 : h2.size ≤ h6.size := Kc6.1
      refine own_go st6 ?_
      show own_Goes p e below (T6.setTop (mkF m 32 #[.val (.int x0), .val (.int x1), .val (.int x2), .val (.int x3), .val r_2, .unset, .unset, .unset, .unset, .unset, .unset, .unset, .unset] [r_6])) _
      refine own_go (fun t_ k_ => XS.astore X6.here hx rfl (hb hby at_32) rfl c6_0.isRef (l' := #[.val (.int x0), .val (.int x1), .val (.int x2), .val (.int x3), .val r_2, .val r_6, .unset, .unset, .unset, .unset, .unset, .unset, .unset]) (XS.store1 (o := .unset) rfl (Or.inl rfl) (XT.cat1 c6_0.isRef)) k_) ?_
      show own_Goes p e below (T6.setTop (mkF m 34 #[.val (.int x0), .val (.int x1), .val (.int x2), .val (.int x3), .val r_2, .val r_6, .unset, .unset, .unset, .unset, .unset, .unset, .unset] [])) _
      refine own_go (fun t_ k_ => XS.iloadN X6.here hx rfl (hb hby at_34) rfl k_) ?_
      show own_Goes p e below (T6.setTop (mkF m 35 #[.val (.int x0), .val (.int x1), .val (.int x2), .val (.int x3), .val r_2, .val r_6, .unset, .unset, .unset, .unset, .unset, .unset, .unset] [(.int x2)])) _
      refine own_go (fun t_ k_ => XS.iloadN X6.here hx rfl (hb hby at_35) rfl k_) ?_
      show own_Goes p e below (T6.setTop (mkF m 36 #[.val (.int x0), .val (.int x1), .val (.int x2), .val (.int x3), .val r_2, .val r_6, .unset, .unset, .unset, .unset, .unset, .unset, .unset] [(.int x3), (.int x2)])) _
      refine own_go (fun t_ k_ => XS.iconst X6.here hx rfl (hb hby at_36) k_) ?_
      show own_Goes p e below (T6.setTop (mkF m 37 #[.val (.int x0), .val (.int x1), .val (.int x2), .val (.int x3), .val r_2, .val r_6, .unset, .unset, .unset, .unset, .unset, .unset, .unset] [(.int (4 : Int32)), (.int x3), (.int x2)])) _
      refine own_go (fun t_ k_ => XS.iand X6.here hx rfl (hb hby at_37) rfl k_) ?_
      show own_Goes p e below (T6.setTop (mkF m 38 #[.val (.int x0), .val (.int x1), .val (.int x2), .val (.int x3), .val r_2, .val r_6, .unset, .unset, .unset, .unset, .unset, .unset, .unset] [(.int (x3 &&& (4 : Int32))), (.int x2)])) _
      have Jz9 : ∀ z9 : Int32, (z9 = 1 ∧ ¬ ((x3 &&& (4 : Int32)) = (0 : Int32))) ∨ (z9 = 0 ∧ ((x3 &&& (4 : Int32)) = (0 : Int32))) → own_Goes p e below (T6.setTop (mkF m 46 #[.val (.int x0), .val (.int x1), .val (.int x2), .val (.int x3), .val r_2, .val r_6, .unset, .unset, .unset, .unset, .unset, .unset, .unset] [(.int z9), (.int x2)])) (own_PostN s (Q_rm0 Z x0 x1 x2 x3 gz h0 n0) room_1.cells room_1.slots) := by
        intro z9 hbz9
        show own_Goes p e below (T6.setTop (mkF m 46 #[.val (.int x0), .val (.int x1), .val (.int x2), .val (.int x3), .val r_2, .val r_6, .unset, .unset, .unset, .unset, .unset, .unset, .unset] [(.int z9), (.int x2)])) _
        obtain ⟨_, _, ⟨T10, L10, k10, n10⟩, -, X10, ⟨Lc10, hQ10, l10, y10, z10⟩, st10⟩ := Jvm.LawKit.callS X6 hx (y := own_m6) hown (mvT hZ (hw _ (List.mem_of_getElem? (i := 0) rfl))) (mvT hZ (hw _ (List.mem_of_getElem? (i := 1) rfl))) (mvT hZ (hw _ (List.mem_of_getElem? (i := 2) rfl))) (mvT hZ (hw _ (List.mem_of_getElem? (i := 3) rfl))) (by decide) (backOf (W := 0) (own_str l Z a0 hw [] x2 z9 h6 n0 O7 gz G) hZ (hw _ (List.mem_of_getElem? (i := 3) rfl)) (hw _ (List.mem_of_getElem? (i := 2) rfl)) (by decide) (by decide)) (g := (mkF m 46 #[.val (.int x0), .val (.int x1), .val (.int x2), .val (.int x3), .val r_2, .val r_6, .unset, .unset, .unset, .unset, .unset, .unset, .unset] [(.int z9), (.int x2)])) rfl (by rw [hml]; rfl) (argsL := [(.int x2), (.int z9)]) (rest := []) (lenOf own_pd_5 rfl) rfl (by show 2 * 0 + _ ≤ _; exact Nat.le_of_eq rfl) (hb hby at_46) (fun _ _ => ⟨rfl, e6, (by decide : 6 + 3 ≤ _), (by decide : 16 + 8 ≤ _)⟩)
        dsimp only [Pt.U, Pt.locs, Pt.cells, Pt.slots] at X10 l10 y10 z10 st10 hQ10
        subst l10 y10 z10
        obtain ⟨h10, e10⟩ : ∃ z, T10.heap = z := ⟨_, rfl⟩
        rw [e10] at hQ10
        obtain ⟨Nc10, Kc10, r_10, rfl, c10_0⟩ := hQ10
        have N10 := Fr.app N6 Nc10
        have O11 := O7.keep Kc10 all0
        have sz12 : h6.size ≤ h10.size := Kc10.1
        refine own_go st10 ?_
        show own_Goes p e below (T10.setTop (mkF m 49 #[.val (.int x0), .val (.int x1), .val (.int x2), .val (.int x3), .val r_2, .val r_6, .unset, .unset, .unset, .unset, .unset, .unset, .unset] [r_10])) _
        refine own_go (fun t_ k_ => XS.astore X10.here hx rfl (hb hby at_49) rfl c10_0.isRef (l' := #[.val (.int x0), .val (.int x1), .val (.int x2), .val (.int x3), .val r_2, .val r_6, .val r_10, .unset, .unset, .unset, .unset, .unset, .unset]) (XS.store1 (o := .unset) rfl (Or.inl rfl) (XT.cat1 c10_0.isRef)) k_) ?_
        show own_Goes p e below (T10.setTop (mkF m 51 #[.val (.int x0), .val (.int x1), .val (.int x2), .val (.int x3), .val r_2, .val r_6, .val r_10, .unset, .unset, .unset, .unset, .unset, .unset] [])) _
        refine own_go (fun t_ k_ => XS.iloadN X10.here hx rfl (hb hby at_51) rfl k_) ?_
        show own_Goes p e below (T10.setTop (mkF m 52 #[.val (.int x0), .val (.int x1), .val (.int x2), .val (.int x3), .val r_2, .val r_6, .val r_10, .unset, .unset, .unset, .unset, .unset, .unset] [(.int x3)])) _
        refine own_go (fun t_ k_ => XS.bipush X10.here hx rfl (hb hby at_52) k_) ?_
        show own_Goes p e below (T10.setTop (mkF m 54 #[.val (.int x0), .val (.int x1), .val (.int x2), .val (.int x3), .val r_2, .val r_6, .val r_10, .unset, .unset, .unset, .unset, .unset, .unset] [(.int (8 : Int32)), (.int x3)])) _
        refine own_go (fun t_ k_ => XS.iand X10.here hx rfl (hb hby at_54) rfl k_) ?_
        show own_Goes p e below (T10.setTop (mkF m 55 #[.val (.int x0), .val (.int x1), .val (.int x2), .val (.int x3), .val r_2, .val r_6, .val r_10, .unset, .unset, .unset, .unset, .unset, .unset] [(.int (x3 &&& (8 : Int32)))])) _
        have Jz13 : ∀ z13 : Int32, (z13 = 1 ∧ ¬ ((x3 &&& (8 : Int32)) = (0 : Int32))) ∨ (z13 = 0 ∧ ((x3 &&& (8 : Int32)) = (0 : Int32))) → own_Goes p e below (T10.setTop (mkF m 63 #[.val (.int x0), .val (.int x1), .val (.int x2), .val (.int x3), .val r_2, .val r_6, .val r_10, .unset, .unset, .unset, .unset, .unset, .unset] [(.int z13)])) (own_PostN s (Q_rm0 Z x0 x1 x2 x3 gz h0 n0) room_1.cells room_1.slots) := by
          intro z13 hbz13
          show own_Goes p e below (T10.setTop (mkF m 63 #[.val (.int x0), .val (.int x1), .val (.int x2), .val (.int x3), .val r_2, .val r_6, .val r_10, .unset, .unset, .unset, .unset, .unset, .unset] [(.int z13)])) _
          refine own_go (fun t_ k_ => XS.istore X10.here hx rfl (hb hby at_63) rfl (l' := #[.val (.int x0), .val (.int x1), .val (.int x2), .val (.int x3), .val r_2, .val r_6, .val r_10, .val (.int z13), .unset, .unset, .unset, .unset, .unset]) rfl k_) ?_
          show own_Goes p e below (T10.setTop (mkF m 65 #[.val (.int x0), .val (.int x1), .val (.int x2), .val (.int x3), .val r_2, .val r_6, .val r_10, .val (.int z13), .unset, .unset, .unset, .unset, .unset] [])) _
          obtain ⟨T14, h14, X14, e14, E14, A14, D14, -, st14⟩ := newO X10 hx hZ hown (hw _ (List.mem_of_getElem? (i := 34) rfl)) (hw _ (List.mem_of_getElem? (i := 35) rfl)) (hw _ (List.mem_of_getElem? (i := 36) rfl)) e10 (g := (mkF m 65 #[.val (.int x0), .val (.int x1), .val (.int x2), .val (.int x3), .val r_2, .val r_6, .val r_10, .val (.int z13), .unset, .unset, .unset, .unset, .unset] [])) rfl (hb hby at_65) (by decide) (by decide)
          obtain ⟨b14, g14⟩ : ∃ z, z = h10.size := ⟨_, rfl⟩
          rw [← g14] at A14 D14 st14
          refine own_go st14 ?_
          have O15 := O11.ext E14
          have sz16 : h10.size ≤ h14.size := E14.1
          have l14 : b14 < h14.size := A14.lt
          have F14_orderId : Fld Z h14 b14 "com/example/saasy/saasy/ledger/Renewal" "orderId" "Ljava/lang/String;" .null := D14 (Or.inr (hw _ (List.mem_of_getElem? (i := 45) rfl))) (ty := (.object "java/lang/String")) (by decide)
          have F14_expireTime : Fld Z h14 b14 "com/example/saasy/saasy/ledger/Renewal" "expireTime" "Ljava/lang/String;" .null := D14 (Or.inr (hw _ (List.mem_of_getElem? (i := 47) rfl))) (ty := (.object "java/lang/String")) (by decide)
          have F14_productId : Fld Z h14 b14 "com/example/saasy/saasy/ledger/Renewal" "productId" "Ljava/lang/String;" .null := D14 (Or.inr (hw _ (List.mem_of_getElem? (i := 49) rfl))) (ty := (.object "java/lang/String")) (by decide)
          have F14_endsTrial : Fld Z h14 b14 "com/example/saasy/saasy/ledger/Renewal" "endsTrial" "Z" (.int (0 : Int32)) := D14 (Or.inr (hw _ (List.mem_of_getElem? (i := 51) rfl))) (ty := .boolean) (by decide)
          have F14_cancelsAPeriod : Fld Z h14 b14 "com/example/saasy/saasy/ledger/Renewal" "cancelsAPeriod" "Z" (.int (0 : Int32)) := D14 (Or.inr (hw _ (List.mem_of_getElem? (i := 53) rfl))) (ty := .boolean) (by decide)
          have F14_unfreezesOnlyAfter : Fld Z h14 b14 "com/example/saasy/saasy/ledger/Renewal" "unfreezesOnlyAfter" "Ljava/time/Instant;" .null := D14 (Or.inr (hw _ (List.mem_of_getElem? (i := 55) rfl))) (ty := (.object "java/time/Instant")) (by decide)
          show own_Goes p e below (T14.setTop (mkF m 68 #[.val (.int x0), .val (.int x1), .val (.int x2), .val (.int x3), .val r_2, .val r_6, .val r_10, .val (.int z13), .unset, .unset, .unset, .unset, .unset] [(.ref b14)])) _
          refine own_go (fun t_ k_ => XS.dup X14.here hx rfl (hb hby at_68) rfl rfl k_) ?_
          show own_Goes p e below (T14.setTop (mkF m 69 #[.val (.int x0), .val (.int x1), .val (.int x2), .val (.int x3), .val r_2, .val r_6, .val r_10, .val (.int z13), .unset, .unset, .unset, .unset, .unset] [(.ref b14), (.ref b14)])) _
          refine own_go (fun t_ k_ => XS.aload X14.here hx rfl (hb hby at_69) rfl c2_0.isRef k_) ?_
          show own_Goes p e below (T14.setTop (mkF m 71 #[.val (.int x0), .val (.int x1), .val (.int x2), .val (.int x3), .val r_2, .val r_6, .val r_10, .val (.int z13), .unset, .unset, .unset, .unset, .unset] [r_2, (.ref b14), (.ref b14)])) _
          refine own_go (fun t_ k_ => XS.aload X14.here hx rfl (hb hby at_71) rfl c6_0.isRef k_) ?_
          show own_Goes p e below (T14.setTop (mkF m 73 #[.val (.int x0), .val (.int x1), .val (.int x2), .val (.int x3), .val r_2, .val r_6, .val r_10, .val (.int z13), .unset, .unset, .unset, .unset, .unset] [r_6, r_2, (.ref b14), (.ref b14)])) _
          refine own_go (fun t_ k_ => XS.aload X14.here hx rfl (hb hby at_73) rfl c10_0.isRef k_) ?_
          show own_Goes p e below (T14.setTop (mkF m 75 #[.val (.int x0), .val (.int x1), .val (.int x2), .val (.int x3), .val r_2, .val r_6, .val r_10, .val (.int z13), .unset, .unset, .unset, .unset, .unset] [r_10, r_6, r_2, (.ref b14), (.ref b14)])) _
          refine own_go (fun t_ k_ => XS.iload X14.here hx rfl (hb hby at_75) rfl k_) ?_
          show own_Goes p e below (T14.setTop (mkF m 77 #[.val (.int x0), .val (.int x1), .val (.int x2), .val (.int x3), .val r_2, .val r_6, .val r_10, .val (.int z13), .unset, .unset, .unset, .unset, .unset] [(.int z13), r_10, r_6, r_2, (.ref b14), (.ref b14)])) _
          obtain ⟨_, _, ⟨T17, L17, k17, n17⟩, -, X17, ⟨Lc17, hQ17, l17, y17, z17⟩, st17⟩ := X14.specialBack hx (y := own_m8) rfl hown (mvT hZ (hw _ (List.mem_of_getElem? (i := 37) rfl))) (mvT hZ (hw _ (List.mem_of_getElem? (i := 38) rfl))) (mvT hZ (hw _ (List.mem_of_getElem? (i := 39) rfl))) (by decide) (backOf (W := 1) (own_rn4 l Z a0 hw [] b14 r_2 r_6 r_10 z13 h14 n0 O15 A14 F14_orderId F14_expireTime F14_productId F14_endsTrial F14_cancelsAPeriod F14_unfreezesOnlyAfter c2_0.isRef c6_0.isRef c10_0.isRef (show n0 ≤ b14 by first | assumption | omega | decide) (show z13 = 0 ∨ z13 = 1 from (own_01 hbz13))) hZ (hw _ (List.mem_of_getElem? (i := 39) rfl)) (hw _ (List.mem_of_getElem? (i := 36) rfl)) (by decide) (by decide)) (g := (mkF m 77 #[.val (.int x0), .val (.int x1), .val (.int x2), .val (.int x3), .val r_2, .val r_6, .val r_10, .val (.int z13), .unset, .unset, .unset, .unset, .unset] [(.int z13), r_10, r_6, r_2, (.ref b14), (.ref b14)])) rfl (by rw [hml]; rfl) (Steps.refl _) (a := b14) (argsL := [r_2, r_6, r_10, (.int z13)]) (rest := [(.ref b14)]) (lenOf own_pd_7 rfl) rfl (by show 2 * 0 + _ ≤ _; exact Nat.le_of_eq rfl) (hb hby at_77) (fun _ _ => ⟨rfl, e14, (by decide : 10 + 0 ≤ _), (by decide : 30 + 0 ≤ _)⟩)
          dsimp only [Pt.U, Pt.locs, Pt.cells, Pt.slots] at X17 l17 y17 z17 st17 hQ17
          subst l17 y17 z17
          obtain ⟨h17, e17⟩ : ∃ z, T17.heap = z := ⟨_, rfl⟩
          rw [e17] at hQ17
          obtain ⟨Nc17, Kc17, rfl, c17_0, c17_1, c17_2, c17_3, c17_4, c17_5⟩ := hQ17
          have N17 := Fr.app N10 Nc17
          have O18 := O15.keep Kc17 (allS (show n0 ≤ b14 by omega) all0)
          have sz19 : h14.size ≤ h17.size := Kc17.1
          refine own_goS st17 ?_
          show own_Goes p e below (T17.setTop (mkF m 80 #[.val (.int x0), .val (.int x1), .val (.int x2), .val (.int x3), .val r_2, .val r_6, .val r_10, .val (.int z13), .unset, .unset, .unset, .unset, .unset] [(.ref b14)])) _
          refine own_go (fun t_ k_ => XS.astore X17.here hx rfl (hb hby at_80) rfl rfl (l' := #[.val (.int x0), .val (.int x1), .val (.int x2), .val (.int x3), .val r_2, .val r_6, .val r_10, .val (.int z13), .val (.ref b14), .unset, .unset, .unset, .unset]) rfl k_) ?_
          show own_Goes p e below (T17.setTop (mkF m 82 #[.val (.int x0), .val (.int x1), .val (.int x2), .val (.int x3), .val r_2, .val r_6, .val r_10, .val (.int z13), .val (.ref b14), .unset, .unset, .unset, .unset] [])) _
          refine own_go (fun t_ k_ => XS.aload X17.here hx rfl (hb hby at_82) rfl rfl k_) ?_
          show own_Goes p e below (T17.setTop (mkF m 84 #[.val (.int x0), .val (.int x1), .val (.int x2), .val (.int x3), .val r_2, .val r_6, .val r_10, .val (.int z13), .val (.ref b14), .unset, .unset, .unset, .unset] [(.ref b14)])) _
          have f20 := (A14.keep Kc17)
          obtain ⟨cqiv21, kqiv21, qiv21a, qiv21b, qiv21c⟩ := isOf hZ e17 f20
          obtain ⟨_, _, ⟨T22, L22, k22, n22⟩, -, X22, ⟨Lc22, hQ22, l22, y22, z22⟩, st22⟩ := X17.virtualBack hx (y := own_m10) (z := own_m10) hown (mvT hZ (hw _ (List.mem_of_getElem? (i := 56) rfl))) (mvT hZ (hw _ (List.mem_of_getElem? (i := 57) rfl))) (notFace_of_selects (args := #[]) (mvT hZ (hw _ (List.mem_of_getElem? (i := 59) rfl)))) (mvT hZ (hw _ (List.mem_of_getElem? (i := 59) rfl))) (mvT hZ (hw _ (List.mem_of_getElem? (i := 58) rfl))) (by decide) (backOf (W := 0) (own_cap l Z a0 hw [] b14 r_2 r_6 r_10 z13 h17 n0 O18 c17_0 c17_1 c17_2 c17_3 c17_4 c17_5 c2_0.isRef c6_0.isRef c10_0.isRef (show z13 = 0 ∨ z13 = 1 from (own_01 hbz13))) hZ (hw _ (List.mem_of_getElem? (i := 60) rfl)) (hw _ (List.mem_of_getElem? (i := 36) rfl)) (by decide) (by decide)) qiv21a qiv21c (g := (mkF m 84 #[.val (.int x0), .val (.int x1), .val (.int x2), .val (.int x3), .val r_2, .val r_6, .val r_10, .val (.int z13), .val (.ref b14), .unset, .unset, .unset, .unset] [(.ref b14)])) rfl (by rw [hml]; rfl) (Steps.refl _) (argsL := []) (rest := []) (lenOf own_pd_9 rfl) rfl (by show 2 * 0 + _ ≤ _; exact Nat.le_of_eq rfl) (hb hby at_84) (fun _ _ => ⟨rfl, e17, (by decide : 10 + 1 ≤ _), (by decide : 30 + 6 ≤ _)⟩)
          dsimp only [Pt.U, Pt.locs, Pt.cells, Pt.slots] at X22 l22 y22 z22 st22 hQ22
          subst l22 y22 z22
          obtain ⟨h22, e22⟩ : ∃ z, T22.heap = z := ⟨_, rfl⟩
          rw [e22] at hQ22
          obtain ⟨Nc22, Kc22, r_22, rfl, c22_0, c22_1, c22_2, c22_3, c22_4, c22_5, c22_6, c22_7⟩ := hQ22
          have N22 := Fr.app N17 Nc22
          have O23 := O18.keep Kc22 all0
          have sz24 : h17.size ≤ h22.size := Kc22.1
          have ltc22_0 : r_22 < h22.size := c22_0.lt
          refine own_goS st22 ?_
          show own_Goes p e below (T22.setTop (mkF m 87 #[.val (.int x0), .val (.int x1), .val (.int x2), .val (.int x3), .val r_2, .val r_6, .val r_10, .val (.int z13), .val (.ref b14), .unset, .unset, .unset, .unset] [(.ref r_22)])) _
          refine own_go (fun t_ k_ => XS.astore X22.here hx rfl (hb hby at_87) rfl rfl (l' := #[.val (.int x0), .val (.int x1), .val (.int x2), .val (.int x3), .val r_2, .val r_6, .val r_10, .val (.int z13), .val (.ref b14), .val (.ref r_22), .unset, .unset, .unset]) rfl k_) ?_
          show own_Goes p e below (T22.setTop (mkF m 89 #[.val (.int x0), .val (.int x1), .val (.int x2), .val (.int x3), .val r_2, .val r_6, .val r_10, .val (.int z13), .val (.ref b14), .val (.ref r_22), .unset, .unset, .unset] [])) _
          refine own_go (fun t_ k_ => XS.aload X22.here hx rfl (hb hby at_89) rfl rfl k_) ?_
          show own_Goes p e below (T22.setTop (mkF m 91 #[.val (.int x0), .val (.int x1), .val (.int x2), .val (.int x3), .val r_2, .val r_6, .val r_10, .val (.int z13), .val (.ref b14), .val (.ref r_22), .unset, .unset, .unset] [(.ref r_22)])) _
          refine own_go (fun t_ k_ => XS.ifnonnullYes X22.here hx rfl (pc0 := 91) (pc' := 96) rfl (hb hby at_91) rfl (by decide) (by decide) k_) ?_
          show own_Goes p e below (T22.setTop (mkF m 96 #[.val (.int x0), .val (.int x1), .val (.int x2), .val (.int x3), .val r_2, .val r_6, .val r_10, .val (.int z13), .val (.ref b14), .val (.ref r_22), .unset, .unset, .unset] [])) _
          refine own_go (fun t_ k_ => XS.aload X22.here hx rfl (hb hby at_96) rfl rfl k_) ?_
          show own_Goes p e below (T22.setTop (mkF m 98 #[.val (.int x0), .val (.int x1), .val (.int x2), .val (.int x3), .val r_2, .val r_6, .val r_10, .val (.int z13), .val (.ref b14), .val (.ref r_22), .unset, .unset, .unset] [(.ref r_22)])) _
          obtain ⟨cqiv25, kqiv25, qiv25a, qiv25b, qiv25c⟩ := isOf hZ e22 c22_0
          obtain ⟨_, _, ⟨T26, L26, k26, n26⟩, -, X26, ⟨Lc26, hQ26, l26, y26, z26⟩, st26⟩ := X22.virtualBack hx (y := own_m12) (z := own_m12) hown (mvT hZ (hw _ (List.mem_of_getElem? (i := 62) rfl))) (mvT hZ (hw _ (List.mem_of_getElem? (i := 63) rfl))) (notFace_of_selects (args := #[]) (mvT hZ (hw _ (List.mem_of_getElem? (i := 65) rfl)))) (mvT hZ (hw _ (List.mem_of_getElem? (i := 65) rfl))) (mvT hZ (hw _ (List.mem_of_getElem? (i := 64) rfl))) (by decide) (backOf (W := 0) (own_g_orderId l Z a0 hw [] r_22 r_2 h22 n0 O23 c22_1 c2_0.isRef) hZ (hw _ (List.mem_of_getElem? (i := 66) rfl)) (hw _ (List.mem_of_getElem? (i := 36) rfl)) (by decide) (by decide)) qiv25a qiv25c (g := (mkF m 98 #[.val (.int x0), .val (.int x1), .val (.int x2), .val (.int x3), .val r_2, .val r_6, .val r_10, .val (.int z13), .val (.ref b14), .val (.ref r_22), .unset, .unset, .unset] [(.ref r_22)])) rfl (by rw [hml]; rfl) (Steps.refl _) (argsL := []) (rest := []) (lenOf own_pd_11 rfl) rfl (by show 2 * 0 + _ ≤ _; exact Nat.le_of_eq rfl) (hb hby at_98) (fun _ _ => ⟨rfl, e22, (by decide : 11 + 0 ≤ _), (by decide : 36 + 0 ≤ _)⟩)
          dsimp only [Pt.U, Pt.locs, Pt.cells, Pt.slots] at X26 l26 y26 z26 st26 hQ26
          subst l26 y26 z26
          obtain ⟨Nc26, e26, rfl⟩ := hQ26
          have N26 := Fr.app N22 Nc26
          refine own_goS st26 ?_
          show own_Goes p e below (T26.setTop (mkF m 101 #[.val (.int x0), .val (.int x1), .val (.int x2), .val (.int x3), .val r_2, .val r_6, .val r_10, .val (.int z13), .val (.ref b14), .val (.ref r_22), .unset, .unset, .unset] [r_2])) _
          refine own_go (fun t_ k_ => XS.aload X26.here hx rfl (hb hby at_101) rfl c2_0.isRef k_) ?_
          show own_Goes p e below (T26.setTop (mkF m 103 #[.val (.int x0), .val (.int x1), .val (.int x2), .val (.int x3), .val r_2, .val r_6, .val r_10, .val (.int z13), .val (.ref b14), .val (.ref r_22), .unset, .unset, .unset] [r_2, r_2])) _
          have f27 := (((((c2_0.keep Kc6).keep Kc10).ext E14).keep Kc17).keep Kc22)
          obtain ⟨_, _, ⟨T28, L28, k28, n28⟩, -, X28, ⟨Lc28, hQ28, l28, y28, z28⟩, st28⟩ := Jvm.LawKit.callS X26 hx (y := own_m14) hown (mvT hZ (hw _ (List.mem_of_getElem? (i := 67) rfl))) (mvT hZ (hw _ (List.mem_of_getElem? (i := 68) rfl))) (mvT hZ (hw _ (List.mem_of_getElem? (i := 2) rfl))) (mvT hZ (hw _ (List.mem_of_getElem? (i := 69) rfl))) (by decide) (backOf (W := 0) (own_same l Z a0 hw [] r_2 h22 n0 O23 f27) hZ (hw _ (List.mem_of_getElem? (i := 69) rfl)) (hw _ (List.mem_of_getElem? (i := 2) rfl)) (by decide) (by decide)) (g := (mkF m 103 #[.val (.int x0), .val (.int x1), .val (.int x2), .val (.int x3), .val r_2, .val r_6, .val r_10, .val (.int z13), .val (.ref b14), .val (.ref r_22), .unset, .unset, .unset] [r_2, r_2])) rfl (by rw [hml]; rfl) (argsL := [r_2, r_2]) (rest := []) (lenOf own_pd_13 rfl) rfl (by show 2 * 0 + _ ≤ _; exact Nat.le_of_eq rfl) (hb hby at_103) (fun _ _ => ⟨rfl, e26, (by decide : 11 + 0 ≤ _), (by decide : 36 + 0 ≤ _)⟩)
          dsimp only [Pt.U, Pt.locs, Pt.cells, Pt.slots] at X28 l28 y28 z28 st28 hQ28
          subst l28 y28 z28
          obtain ⟨Nc28, e28, rfl⟩ := hQ28
          have N28 := Fr.app N26 Nc28
          refine own_go st28 ?_
          show own_Goes p e below (T28.setTop (mkF m 106 #[.val (.int x0), .val (.int x1), .val (.int x2), .val (.int x3), .val r_2, .val r_6, .val r_10, .val (.int z13), .val (.ref b14), .val (.ref r_22), .unset, .unset, .unset] [(.int (1 : Int32))])) _
          refine own_go (fun t_ k_ => XS.ifNo X28.here hx rfl (hb hby at_106) rfl ((if0 _ _).trans (feq (show ¬ ((1 : Int32) = (0 : Int32)) from by decide)).1) k_) ?_
          show own_Goes p e below (T28.setTop (mkF m 109 #[.val (.int x0), .val (.int x1), .val (.int x2), .val (.int x3), .val r_2, .val r_6, .val r_10, .val (.int z13), .val (.ref b14), .val (.ref r_22), .unset, .unset, .unset] [])) _
          refine own_go (fun t_ k_ => XS.aload X28.here hx rfl (hb hby at_109) rfl rfl k_) ?_
          show own_Goes p e below (T28.setTop (mkF m 111 #[.val (.int x0), .val (.int x1), .val (.int x2), .val (.int x3), .val r_2, .val r_6, .val r_10, .val (.int z13), .val (.ref b14), .val (.ref r_22), .unset, .unset, .unset] [(.ref r_22)])) _
          obtain ⟨cqiv29, kqiv29, qiv29a, qiv29b, qiv29c⟩ := isOf hZ e28 c22_0
          obtain ⟨_, _, ⟨T30, L30, k30, n30⟩, -, X30, ⟨Lc30, hQ30, l30, y30, z30⟩, st30⟩ := X28.virtualBack hx (y := own_m15) (z := own_m15) hown (mvT hZ (hw _ (List.mem_of_getElem? (i := 70) rfl))) (mvT hZ (hw _ (List.mem_of_getElem? (i := 71) rfl))) (notFace_of_selects (args := #[]) (mvT hZ (hw _ (List.mem_of_getElem? (i := 73) rfl)))) (mvT hZ (hw _ (List.mem_of_getElem? (i := 73) rfl))) (mvT hZ (hw _ (List.mem_of_getElem? (i := 72) rfl))) (by decide) (backOf (W := 0) (own_g_expireTime l Z a0 hw [] r_22 r_6 h22 n0 O23 c22_2 c6_0.isRef) hZ (hw _ (List.mem_of_getElem? (i := 74) rfl)) (hw _ (List.mem_of_getElem? (i := 36) rfl)) (by decide) (by decide)) qiv29a qiv29c (g := (mkF m 111 #[.val (.int x0), .val (.int x1), .val (.int x2), .val (.int x3), .val r_2, .val r_6, .val r_10, .val (.int z13), .val (.ref b14), .val (.ref r_22), .unset, .unset, .unset] [(.ref r_22)])) rfl (by rw [hml]; rfl) (Steps.refl _) (argsL := []) (rest := []) (lenOf own_pd_11 rfl) rfl (by show 2 * 0 + _ ≤ _; exact Nat.le_of_eq rfl) (hb hby at_111) (fun _ _ => ⟨rfl, e28, (by decide : 11 + 0 ≤ _), (by decide : 36 + 0 ≤ _)⟩)
          dsimp only [Pt.U, Pt.locs, Pt.cells, Pt.slots] at X30 l30 y30 z30 st30 hQ30
          subst l30 y30 z30
          obtain ⟨Nc30, e30, rfl⟩ := hQ30
          have N30 := Fr.app N28 Nc30
          refine own_goS st30 ?_
          show own_Goes p e below (T30.setTop (mkF m 114 #[.val (.int x0), .val (.int x1), .val (.int x2), .val (.int x3), .val r_2, .val r_6, .val r_10, .val (.int z13), .val (.ref b14), .val (.ref r_22), .unset, .unset, .unset] [r_6])) _
          refine own_go (fun t_ k_ => XS.aload X30.here hx rfl (hb hby at_114) rfl c6_0.isRef k_) ?_
          show own_Goes p e below (T30.setTop (mkF m 116 #[.val (.int x0), .val (.int x1), .val (.int x2), .val (.int x3), .val r_2, .val r_6, .val r_10, .val (.int z13), .val (.ref b14), .val (.ref r_22), .unset, .unset, .unset] [r_6, r_6])) _
          have f31 := ((((c6_0.keep Kc10).ext E14).keep Kc17).keep Kc22)
          obtain ⟨_, _, ⟨T32, L32, k32, n32⟩, -, X32, ⟨Lc32, hQ32, l32, y32, z32⟩, st32⟩ := Jvm.LawKit.callS X30 hx (y := own_m14) hown (mvT hZ (hw _ (List.mem_of_getElem? (i := 67) rfl))) (mvT hZ (hw _ (List.mem_of_getElem? (i := 68) rfl))) (mvT hZ (hw _ (List.mem_of_getElem? (i := 2) rfl))) (mvT hZ (hw _ (List.mem_of_getElem? (i := 69) rfl))) (by decide) (backOf (W := 0) (own_same l Z a0 hw [] r_6 h22 n0 O23 f31) hZ (hw _ (List.mem_of_getElem? (i := 69) rfl)) (hw _ (List.mem_of_getElem? (i := 2) rfl)) (by decide) (by decide)) (g := (mkF m 116 #[.val (.int x0), .val (.int x1), .val (.int x2), .val (.int x3), .val r_2, .val r_6, .val r_10, .val (.int z13), .val (.ref b14), .val (.ref r_22), .unset, .unset, .unset] [r_6, r_6])) rfl (by rw [hml]; rfl) (argsL := [r_6, r_6]) (rest := []) (lenOf own_pd_13 rfl) rfl (by show 2 * 0 + _ ≤ _; exact Nat.le_of_eq rfl) (hb hby at_116) (fun _ _ => ⟨rfl, e30, (by decide : 11 + 0 ≤ _), (by decide : 36 + 0 ≤ _)⟩)
          dsimp only [Pt.U, Pt.locs, Pt.cells, Pt.slots] at X32 l32 y32 z32 st32 hQ32
          subst l32 y32 z32
          obtain ⟨Nc32, e32, rfl⟩ := hQ32
          have N32 := Fr.app N30 Nc32
          refine own_go st32 ?_
          show own_Goes p e below (T32.setTop (mkF m 119 #[.val (.int x0), .val (.int x1), .val (.int x2), .val (.int x3), .val r_2, .val r_6, .val r_10, .val (.int z13), .val (.ref b14), .val (.ref r_22), .unset, .unset, .unset] [(.int (1 : Int32))])) _
          refine own_go (fun t_ k_ => XS.ifNo X32.here hx rfl (hb hby at_119) rfl ((if0 _ _).trans (feq (show ¬ ((1 : Int32) = (0 : Int32)) from by decide)).1) k_) ?_
          show own_Goes p e below (T32.setTop (mkF m 122 #[.val (.int x0), .val (.int x1), .val (.int x2), .val (.int x3), .val r_2, .val r_6, .val r_10, .val (.int z13), .val (.ref b14), .val (.ref r_22), .unset, .unset, .unset] [])) _
          refine own_go (fun t_ k_ => XS.aload X32.here hx rfl (hb hby at_122) rfl rfl k_) ?_
          show own_Goes p e below (T32.setTop (mkF m 124 #[.val (.int x0), .val (.int x1), .val (.int x2), .val (.int x3), .val r_2, .val r_6, .val r_10, .val (.int z13), .val (.ref b14), .val (.ref r_22), .unset, .unset, .unset] [(.ref r_22)])) _
          obtain ⟨cqiv33, kqiv33, qiv33a, qiv33b, qiv33c⟩ := isOf hZ e32 c22_0
          obtain ⟨_, _, ⟨T34, L34, k34, n34⟩, -, X34, ⟨Lc34, hQ34, l34, y34, z34⟩, st34⟩ := X32.virtualBack hx (y := own_m16) (z := own_m16) hown (mvT hZ (hw _ (List.mem_of_getElem? (i := 80) rfl))) (mvT hZ (hw _ (List.mem_of_getElem? (i := 81) rfl))) (notFace_of_selects (args := #[]) (mvT hZ (hw _ (List.mem_of_getElem? (i := 83) rfl)))) (mvT hZ (hw _ (List.mem_of_getElem? (i := 83) rfl))) (mvT hZ (hw _ (List.mem_of_getElem? (i := 82) rfl))) (by decide) (backOf (W := 0) (own_g_productId l Z a0 hw [] r_22 r_10 h22 n0 O23 c22_3 c10_0.isRef) hZ (hw _ (List.mem_of_getElem? (i := 84) rfl)) (hw _ (List.mem_of_getElem? (i := 36) rfl)) (by decide) (by decide)) qiv33a qiv33c (g := (mkF m 124 #[.val (.int x0), .val (.int x1), .val (.int x2), .val (.int x3), .val r_2, .val r_6, .val r_10, .val (.int z13), .val (.ref b14), .val (.ref r_22), .unset, .unset, .unset] [(.ref r_22)])) rfl (by rw [hml]; rfl) (Steps.refl _) (argsL := []) (rest := []) (lenOf own_pd_11 rfl) rfl (by show 2 * 0 + _ ≤ _; exact Nat.le_of_eq rfl) (hb hby at_124) (fun _ _ => ⟨rfl, e32, (by decide : 11 + 0 ≤ _), (by decide : 36 + 0 ≤ _)⟩)
          dsimp only [Pt.U, Pt.locs, Pt.cells, Pt.slots] at X34 l34 y34 z34 st34 hQ34
          subst l34 y34 z34
          obtain ⟨Nc34, e34, rfl⟩ := hQ34
          have N34 := Fr.app N32 Nc34
          refine own_goS st34 ?_
          show own_Goes p e below (T34.setTop (mkF m 127 #[.val (.int x0), .val (.int x1), .val (.int x2), .val (.int x3), .val r_2, .val r_6, .val r_10, .val (.int z13), .val (.ref b14), .val (.ref r_22), .unset, .unset, .unset] [r_10])) _
          refine own_go (fun t_ k_ => XS.aload X34.here hx rfl (hb hby at_127) rfl c10_0.isRef k_) ?_
          show own_Goes p e below (T34.setTop (mkF m 129 #[.val (.int x0), .val (.int x1), .val (.int x2), .val (.int x3), .val r_2, .val r_6, .val r_10, .val (.int z13), .val (.ref b14), .val (.ref r_22), .unset, .unset, .unset] [r_10, r_10])) _
          have f35 := (((c10_0.ext E14).keep Kc17).keep Kc22)
          obtain ⟨_, _, ⟨T36, L36, k36, n36⟩, -, X36, ⟨Lc36, hQ36, l36, y36, z36⟩, st36⟩ := Jvm.LawKit.callS X34 hx (y := own_m14) hown (mvT hZ (hw _ (List.mem_of_getElem? (i := 67) rfl))) (mvT hZ (hw _ (List.mem_of_getElem? (i := 68) rfl))) (mvT hZ (hw _ (List.mem_of_getElem? (i := 2) rfl))) (mvT hZ (hw _ (List.mem_of_getElem? (i := 69) rfl))) (by decide) (backOf (W := 0) (own_same l Z a0 hw [] r_10 h22 n0 O23 f35) hZ (hw _ (List.mem_of_getElem? (i := 69) rfl)) (hw _ (List.mem_of_getElem? (i := 2) rfl)) (by decide) (by decide)) (g := (mkF m 129 #[.val (.int x0), .val (.int x1), .val (.int x2), .val (.int x3), .val r_2, .val r_6, .val r_10, .val (.int z13), .val (.ref b14), .val (.ref r_22), .unset, .unset, .unset] [r_10, r_10])) rfl (by rw [hml]; rfl) (argsL := [r_10, r_10]) (rest := []) (lenOf own_pd_13 rfl) rfl (by show 2 * 0 + _ ≤ _; exact Nat.le_of_eq rfl) (hb hby at_129) (fun _ _ => ⟨rfl, e34, (by decide : 11 + 0 ≤ _), (by decide : 36 + 0 ≤ _)⟩)
          dsimp only [Pt.U, Pt.locs, Pt.cells, Pt.slots] at X36 l36 y36 z36 st36 hQ36
          subst l36 y36 z36
          obtain ⟨Nc36, e36, rfl⟩ := hQ36
          have N36 := Fr.app N34 Nc36
          refine own_go st36 ?_
          show own_Goes p e below (T36.setTop (mkF m 132 #[.val (.int x0), .val (.int x1), .val (.int x2), .val (.int x3), .val r_2, .val r_6, .val r_10, .val (.int z13), .val (.ref b14), .val (.ref r_22), .unset, .unset, .unset] [(.int (1 : Int32))])) _
          refine own_go (fun t_ k_ => XS.ifNo X36.here hx rfl (hb hby at_132) rfl ((if0 _ _).trans (feq (show ¬ ((1 : Int32) = (0 : Int32)) from by decide)).1) k_) ?_
          show own_Goes p e below (T36.setTop (mkF m 135 #[.val (.int x0), .val (.int x1), .val (.int x2), .val (.int x3), .val r_2, .val r_6, .val r_10, .val (.int z13), .val (.ref b14), .val (.ref r_22), .unset, .unset, .unset] [])) _
          refine own_go (fun t_ k_ => XS.aload X36.here hx rfl (hb hby at_135) rfl rfl k_) ?_
          show own_Goes p e below (T36.setTop (mkF m 137 #[.val (.int x0), .val (.int x1), .val (.int x2), .val (.int x3), .val r_2, .val r_6, .val r_10, .val (.int z13), .val (.ref b14), .val (.ref r_22), .unset, .unset, .unset] [(.ref r_22)])) _
          obtain ⟨cqiv37, kqiv37, qiv37a, qiv37b, qiv37c⟩ := isOf hZ e36 c22_0
          obtain ⟨_, _, ⟨T38, L38, k38, n38⟩, -, X38, ⟨Lc38, hQ38, l38, y38, z38⟩, st38⟩ := X36.virtualBack hx (y := own_m18) (z := own_m18) hown (mvT hZ (hw _ (List.mem_of_getElem? (i := 85) rfl))) (mvT hZ (hw _ (List.mem_of_getElem? (i := 86) rfl))) (notFace_of_selects (args := #[]) (mvT hZ (hw _ (List.mem_of_getElem? (i := 88) rfl)))) (mvT hZ (hw _ (List.mem_of_getElem? (i := 88) rfl))) (mvT hZ (hw _ (List.mem_of_getElem? (i := 87) rfl))) (by decide) (backOf (W := 0) (own_et l Z a0 hw [] r_22 z13 h22 n0 O23 c22_4 (show z13 = 0 ∨ z13 = 1 from (own_01 hbz13))) hZ (hw _ (List.mem_of_getElem? (i := 89) rfl)) (hw _ (List.mem_of_getElem? (i := 36) rfl)) (by decide) (by decide)) qiv37a qiv37c (g := (mkF m 137 #[.val (.int x0), .val (.int x1), .val (.int x2), .val (.int x3), .val r_2, .val r_6, .val r_10, .val (.int z13), .val (.ref b14), .val (.ref r_22), .unset, .unset, .unset] [(.ref r_22)])) rfl (by rw [hml]; rfl) (Steps.refl _) (argsL := []) (rest := []) (lenOf own_pd_17 rfl) rfl (by show 2 * 0 + _ ≤ _; exact Nat.le_of_eq rfl) (hb hby at_137) (fun _ _ => ⟨rfl, e36, (by decide : 11 + 0 ≤ _), (by decide : 36 + 0 ≤ _)⟩)
          dsimp only [Pt.U, Pt.locs, Pt.cells, Pt.slots] at X38 l38 y38 z38 st38 hQ38
          subst l38 y38 z38
          obtain ⟨Nc38, e38, rfl⟩ := hQ38
          have N38 := Fr.app N36 Nc38
          refine own_goS st38 ?_
          show own_Goes p e below (T38.setTop (mkF m 140 #[.val (.int x0), .val (.int x1), .val (.int x2), .val (.int x3), .val r_2, .val r_6, .val r_10, .val (.int z13), .val (.ref b14), .val (.ref r_22), .unset, .unset, .unset] [(.int z13)])) _
          refine own_go (fun t_ k_ => XS.iload X38.here hx rfl (hb hby at_140) rfl k_) ?_
          show own_Goes p e below (T38.setTop (mkF m 142 #[.val (.int x0), .val (.int x1), .val (.int x2), .val (.int x3), .val r_2, .val r_6, .val r_10, .val (.int z13), .val (.ref b14), .val (.ref r_22), .unset, .unset, .unset] [(.int z13), (.int z13)])) _
          refine own_go (fun t_ k_ => XS.icmpNo X38.here hx rfl (hb hby at_142) rfl (teq (rfl : z13 = z13)).2 k_) ?_
          show own_Goes p e below (T38.setTop (mkF m 145 #[.val (.int x0), .val (.int x1), .val (.int x2), .val (.int x3), .val r_2, .val r_6, .val r_10, .val (.int z13), .val (.ref b14), .val (.ref r_22), .unset, .unset, .unset] [])) _
          refine own_go (fun t_ k_ => XS.iconst X38.here hx rfl (hb hby at_145) k_) ?_
          show own_Goes p e below (T38.setTop (mkF m 146 #[.val (.int x0), .val (.int x1), .val (.int x2), .val (.int x3), .val r_2, .val r_6, .val r_10, .val (.int z13), .val (.ref b14), .val (.ref r_22), .unset, .unset, .unset] [(.int (1 : Int32))])) _
          refine own_go (fun t_ k_ => XS.goto X38.here hx rfl (pc0 := 146) (pc' := 150) rfl (hb hby at_146) (by decide) (by decide) k_) ?_
          show own_Goes p e below (T38.setTop (mkF m 150 #[.val (.int x0), .val (.int x1), .val (.int x2), .val (.int x3), .val r_2, .val r_6, .val r_10, .val (.int z13), .val (.ref b14), .val (.ref r_22), .unset, .unset, .unset] [(.int (1 : Int32))])) _
          refine own_go (fun t_ k_ => XS.istore X38.here hx rfl (hb hby at_150) rfl (l' := #[.val (.int x0), .val (.int x1), .val (.int x2), .val (.int x3), .val r_2, .val r_6, .val r_10, .val (.int z13), .val (.ref b14), .val (.ref r_22), .val (.int (1 : Int32)), .unset, .unset]) rfl k_) ?_
          show own_Goes p e below (T38.setTop (mkF m 152 #[.val (.int x0), .val (.int x1), .val (.int x2), .val (.int x3), .val r_2, .val r_6, .val r_10, .val (.int z13), .val (.ref b14), .val (.ref r_22), .val (.int (1 : Int32)), .unset, .unset] [])) _
          refine own_go (fun t_ k_ => XS.aload X38.here hx rfl (hb hby at_152) rfl rfl k_) ?_
          show own_Goes p e below (T38.setTop (mkF m 154 #[.val (.int x0), .val (.int x1), .val (.int x2), .val (.int x3), .val r_2, .val r_6, .val r_10, .val (.int z13), .val (.ref b14), .val (.ref r_22), .val (.int (1 : Int32)), .unset, .unset] [(.ref r_22)])) _
          obtain ⟨cqiv39, kqiv39, qiv39a, qiv39b, qiv39c⟩ := isOf hZ e38 c22_0
          obtain ⟨_, _, ⟨T40, L40, k40, n40⟩, -, X40, ⟨Lc40, hQ40, l40, y40, z40⟩, st40⟩ := X38.virtualBack hx (y := own_m19) (z := own_m19) hown (mvT hZ (hw _ (List.mem_of_getElem? (i := 90) rfl))) (mvT hZ (hw _ (List.mem_of_getElem? (i := 91) rfl))) (notFace_of_selects (args := #[]) (mvT hZ (hw _ (List.mem_of_getElem? (i := 93) rfl)))) (mvT hZ (hw _ (List.mem_of_getElem? (i := 93) rfl))) (mvT hZ (hw _ (List.mem_of_getElem? (i := 92) rfl))) (by decide) (backOf (W := 0) (own_cp1 l Z a0 hw [] r_22 h22 n0 O23 c22_5) hZ (hw _ (List.mem_of_getElem? (i := 94) rfl)) (hw _ (List.mem_of_getElem? (i := 36) rfl)) (by decide) (by decide)) qiv39a qiv39c (g := (mkF m 154 #[.val (.int x0), .val (.int x1), .val (.int x2), .val (.int x3), .val r_2, .val r_6, .val r_10, .val (.int z13), .val (.ref b14), .val (.ref r_22), .val (.int (1 : Int32)), .unset, .unset] [(.ref r_22)])) rfl (by rw [hml]; rfl) (Steps.refl _) (argsL := []) (rest := []) (lenOf own_pd_17 rfl) rfl (by show 2 * 0 + _ ≤ _; exact Nat.le_of_eq rfl) (hb hby at_154) (fun _ _ => ⟨rfl, e38, (by decide : 11 + 0 ≤ _), (by decide : 36 + 0 ≤ _)⟩)
          dsimp only [Pt.U, Pt.locs, Pt.cells, Pt.slots] at X40 l40 y40 z40 st40 hQ40
          subst l40 y40 z40
          obtain ⟨Nc40, e40, rfl⟩ := hQ40
          have N40 := Fr.app N38 Nc40
          refine own_goS st40 ?_
          show own_Goes p e below (T40.setTop (mkF m 157 #[.val (.int x0), .val (.int x1), .val (.int x2), .val (.int x3), .val r_2, .val r_6, .val r_10, .val (.int z13), .val (.ref b14), .val (.ref r_22), .val (.int (1 : Int32)), .unset, .unset] [(.int (1 : Int32))])) _
          refine own_go (fun t_ k_ => XS.ifNo X40.here hx rfl (hb hby at_157) rfl ((if0 _ _).trans (feq (show ¬ ((1 : Int32) = (0 : Int32)) from by decide)).1) k_) ?_
          show own_Goes p e below (T40.setTop (mkF m 160 #[.val (.int x0), .val (.int x1), .val (.int x2), .val (.int x3), .val r_2, .val r_6, .val r_10, .val (.int z13), .val (.ref b14), .val (.ref r_22), .val (.int (1 : Int32)), .unset, .unset] [])) _
          refine own_go (fun t_ k_ => XS.aload X40.here hx rfl (hb hby at_160) rfl rfl k_) ?_
          show own_Goes p e below (T40.setTop (mkF m 162 #[.val (.int x0), .val (.int x1), .val (.int x2), .val (.int x3), .val r_2, .val r_6, .val r_10, .val (.int z13), .val (.ref b14), .val (.ref r_22), .val (.int (1 : Int32)), .unset, .unset] [(.ref b14)])) _
          have f41 := (c17_4.keep Kc22 nin0)
          have f42 := (f20.keep Kc22)
          obtain ⟨cqiv43, kqiv43, qiv43a, qiv43b, qiv43c⟩ := isOf hZ e40 f42
          obtain ⟨_, _, ⟨T44, L44, k44, n44⟩, -, X44, ⟨Lc44, hQ44, l44, y44, z44⟩, st44⟩ := X40.virtualBack hx (y := own_m19) (z := own_m19) hown (mvT hZ (hw _ (List.mem_of_getElem? (i := 90) rfl))) (mvT hZ (hw _ (List.mem_of_getElem? (i := 91) rfl))) (notFace_of_selects (args := #[]) (mvT hZ (hw _ (List.mem_of_getElem? (i := 93) rfl)))) (mvT hZ (hw _ (List.mem_of_getElem? (i := 93) rfl))) (mvT hZ (hw _ (List.mem_of_getElem? (i := 92) rfl))) (by decide) (backOf (W := 0) (own_cp0 l Z a0 hw [] b14 h22 n0 O23 f41) hZ (hw _ (List.mem_of_getElem? (i := 94) rfl)) (hw _ (List.mem_of_getElem? (i := 36) rfl)) (by decide) (by decide)) qiv43a qiv43c (g := (mkF m 162 #[.val (.int x0), .val (.int x1), .val (.int x2), .val (.int x3), .val r_2, .val r_6, .val r_10, .val (.int z13), .val (.ref b14), .val (.ref r_22), .val (.int (1 : Int32)), .unset, .unset] [(.ref b14)])) rfl (by rw [hml]; rfl) (Steps.refl _) (argsL := []) (rest := []) (lenOf own_pd_17 rfl) rfl (by show 2 * 0 + _ ≤ _; exact Nat.le_of_eq rfl) (hb hby at_162) (fun _ _ => ⟨rfl, e40, (by decide : 11 + 0 ≤ _), (by decide : 36 + 0 ≤ _)⟩)
          dsimp only [Pt.U, Pt.locs, Pt.cells, Pt.slots] at X44 l44 y44 z44 st44 hQ44
          subst l44 y44 z44
          obtain ⟨Nc44, e44, rfl⟩ := hQ44
          have N44 := Fr.app N40 Nc44
          refine own_goS st44 ?_
          show own_Goes p e below (T44.setTop (mkF m 165 #[.val (.int x0), .val (.int x1), .val (.int x2), .val (.int x3), .val r_2, .val r_6, .val r_10, .val (.int z13), .val (.ref b14), .val (.ref r_22), .val (.int (1 : Int32)), .unset, .unset] [(.int (0 : Int32))])) _
          refine own_go (fun t_ k_ => XS.ifNo X44.here hx rfl (hb hby at_165) rfl ((if0 _ _).trans (teq (show ((0 : Int32) = (0 : Int32)) from by decide)).2) k_) ?_
          show own_Goes p e below (T44.setTop (mkF m 168 #[.val (.int x0), .val (.int x1), .val (.int x2), .val (.int x3), .val r_2, .val r_6, .val r_10, .val (.int z13), .val (.ref b14), .val (.ref r_22), .val (.int (1 : Int32)), .unset, .unset] [])) _
          refine own_go (fun t_ k_ => XS.iconst X44.here hx rfl (hb hby at_168) k_) ?_
          show own_Goes p e below (T44.setTop (mkF m 169 #[.val (.int x0), .val (.int x1), .val (.int x2), .val (.int x3), .val r_2, .val r_6, .val r_10, .val (.int z13), .val (.ref b14), .val (.ref r_22), .val (.int (1 : Int32)), .unset, .unset] [(.int (1 : Int32))])) _
          refine own_go (fun t_ k_ => XS.goto X44.here hx rfl (pc0 := 169) (pc' := 173) rfl (hb hby at_169) (by decide) (by decide) k_) ?_
          show own_Goes p e below (T44.setTop (mkF m 173 #[.val (.int x0), .val (.int x1), .val (.int x2), .val (.int x3), .val r_2, .val r_6, .val r_10, .val (.int z13), .val (.ref b14), .val (.ref r_22), .val (.int (1 : Int32)), .unset, .unset] [(.int (1 : Int32))])) _
          refine own_go (fun t_ k_ => XS.istore X44.here hx rfl (hb hby at_173) rfl (l' := #[.val (.int x0), .val (.int x1), .val (.int x2), .val (.int x3), .val r_2, .val r_6, .val r_10, .val (.int z13), .val (.ref b14), .val (.ref r_22), .val (.int (1 : Int32)), .val (.int (1 : Int32)), .unset]) rfl k_) ?_
          show own_Goes p e below (T44.setTop (mkF m 175 #[.val (.int x0), .val (.int x1), .val (.int x2), .val (.int x3), .val r_2, .val r_6, .val r_10, .val (.int z13), .val (.ref b14), .val (.ref r_22), .val (.int (1 : Int32)), .val (.int (1 : Int32)), .unset] [])) _
          refine own_go (fun t_ k_ => XS.aload X44.here hx rfl (hb hby at_175) rfl rfl k_) ?_
          show own_Goes p e below (T44.setTop (mkF m 177 #[.val (.int x0), .val (.int x1), .val (.int x2), .val (.int x3), .val r_2, .val r_6, .val r_10, .val (.int z13), .val (.ref b14), .val (.ref r_22), .val (.int (1 : Int32)), .val (.int (1 : Int32)), .unset] [(.ref r_22)])) _
          obtain ⟨cqiv45, kqiv45, qiv45a, qiv45b, qiv45c⟩ := isOf hZ e44 c22_0
          obtain ⟨_, _, ⟨T46, L46, k46, n46⟩, -, X46, ⟨Lc46, hQ46, l46, y46, z46⟩, st46⟩ := X44.virtualBack hx (y := own_m20) (z := own_m20) hown (mvT hZ (hw _ (List.mem_of_getElem? (i := 95) rfl))) (mvT hZ (hw _ (List.mem_of_getElem? (i := 96) rfl))) (notFace_of_selects (args := #[]) (mvT hZ (hw _ (List.mem_of_getElem? (i := 98) rfl)))) (mvT hZ (hw _ (List.mem_of_getElem? (i := 98) rfl))) (mvT hZ (hw _ (List.mem_of_getElem? (i := 97) rfl))) (by decide) (backOf (W := 0) (own_unf l Z a0 hw [] r_22 h22 n0 O23 c22_6) hZ (hw _ (List.mem_of_getElem? (i := 99) rfl)) (hw _ (List.mem_of_getElem? (i := 36) rfl)) (by decide) (by decide)) qiv45a qiv45c (g := (mkF m 177 #[.val (.int x0), .val (.int x1), .val (.int x2), .val (.int x3), .val r_2, .val r_6, .val r_10, .val (.int z13), .val (.ref b14), .val (.ref r_22), .val (.int (1 : Int32)), .val (.int (1 : Int32)), .unset] [(.ref r_22)])) rfl (by rw [hml]; rfl) (Steps.refl _) (argsL := []) (rest := []) (lenOf own_pd_17 rfl) rfl (by show 2 * 0 + _ ≤ _; exact Nat.le_of_eq rfl) (hb hby at_177) (fun _ _ => ⟨rfl, e44, (by decide : 11 + 0 ≤ _), (by decide : 36 + 0 ≤ _)⟩)
          dsimp only [Pt.U, Pt.locs, Pt.cells, Pt.slots] at X46 l46 y46 z46 st46 hQ46
          subst l46 y46 z46
          obtain ⟨Nc46, e46, rfl⟩ := hQ46
          have N46 := Fr.app N44 Nc46
          refine own_goS st46 ?_
          show own_Goes p e below (T46.setTop (mkF m 180 #[.val (.int x0), .val (.int x1), .val (.int x2), .val (.int x3), .val r_2, .val r_6, .val r_10, .val (.int z13), .val (.ref b14), .val (.ref r_22), .val (.int (1 : Int32)), .val (.int (1 : Int32)), .unset] [(.int (1 : Int32))])) _
          refine own_go (fun t_ k_ => XS.istore X46.here hx rfl (hb hby at_180) rfl (l' := #[.val (.int x0), .val (.int x1), .val (.int x2), .val (.int x3), .val r_2, .val r_6, .val r_10, .val (.int z13), .val (.ref b14), .val (.ref r_22), .val (.int (1 : Int32)), .val (.int (1 : Int32)), .val (.int (1 : Int32))]) rfl k_) ?_
          show own_Goes p e below (T46.setTop (mkF m 182 #[.val (.int x0), .val (.int x1), .val (.int x2), .val (.int x3), .val r_2, .val r_6, .val r_10, .val (.int z13), .val (.ref b14), .val (.ref r_22), .val (.int (1 : Int32)), .val (.int (1 : Int32)), .val (.int (1 : Int32))] [])) _
          refine own_go (fun t_ k_ => XS.iload X46.here hx rfl (hb hby at_182) rfl k_) ?_
          show own_Goes p e below (T46.setTop (mkF m 184 #[.val (.int x0), .val (.int x1), .val (.int x2), .val (.int x3), .val r_2, .val r_6, .val r_10, .val (.int z13), .val (.ref b14), .val (.ref r_22), .val (.int (1 : Int32)), .val (.int (1 : Int32)), .val (.int (1 : Int32))] [(.int (1 : Int32))])) _
          refine own_go (fun t_ k_ => XS.ifNo X46.here hx rfl (hb hby at_184) rfl ((if0 _ _).trans (feq (show ¬ ((1 : Int32) = (0 : Int32)) from by decide)).1) k_) ?_
          show own_Goes p e below (T46.setTop (mkF m 187 #[.val (.int x0), .val (.int x1), .val (.int x2), .val (.int x3), .val r_2, .val r_6, .val r_10, .val (.int z13), .val (.ref b14), .val (.ref r_22), .val (.int (1 : Int32)), .val (.int (1 : Int32)), .val (.int (1 : Int32))] [])) _
          refine own_go (fun t_ k_ => XS.iload X46.here hx rfl (hb hby at_187) rfl k_) ?_
          show own_Goes p e below (T46.setTop (mkF m 189 #[.val (.int x0), .val (.int x1), .val (.int x2), .val (.int x3), .val r_2, .val r_6, .val r_10, .val (.int z13), .val (.ref b14), .val (.ref r_22), .val (.int (1 : Int32)), .val (.int (1 : Int32)), .val (.int (1 : Int32))] [(.int (1 : Int32))])) _
          refine own_go (fun t_ k_ => XS.ifNo X46.here hx rfl (hb hby at_189) rfl ((if0 _ _).trans (feq (show ¬ ((1 : Int32) = (0 : Int32)) from by decide)).1) k_) ?_
          show own_Goes p e below (T46.setTop (mkF m 192 #[.val (.int x0), .val (.int x1), .val (.int x2), .val (.int x3), .val r_2, .val r_6, .val r_10, .val (.int z13), .val (.ref b14), .val (.ref r_22), .val (.int (1 : Int32)), .val (.int (1 : Int32)), .val (.int (1 : Int32))] [])) _
          refine own_go (fun t_ k_ => XS.iload X46.here hx rfl (hb hby at_192) rfl k_) ?_
          show own_Goes p e below (T46.setTop (mkF m 194 #[.val (.int x0), .val (.int x1), .val (.int x2), .val (.int x3), .val r_2, .val r_6, .val r_10, .val (.int z13), .val (.ref b14), .val (.ref r_22), .val (.int (1 : Int32)), .val (.int (1 : Int32)), .val (.int (1 : Int32))] [(.int (1 : Int32))])) _
          refine own_go (fun t_ k_ => XS.ifNo X46.here hx rfl (hb hby at_194) rfl ((if0 _ _).trans (feq (show ¬ ((1 : Int32) = (0 : Int32)) from by decide)).1) k_) ?_
          show own_Goes p e below (T46.setTop (mkF m 197 #[.val (.int x0), .val (.int x1), .val (.int x2), .val (.int x3), .val r_2, .val r_6, .val r_10, .val (.int z13), .val (.ref b14), .val (.ref r_22), .val (.int (1 : Int32)), .val (.int (1 : Int32)), .val (.int (1 : Int32))] [])) _
          refine own_go (fun t_ k_ => XS.iconst X46.here hx rfl (hb hby at_197) k_) ?_
          show own_Goes p e below (T46.setTop (mkF m 198 #[.val (.int x0), .val (.int x1), .val (.int x2), .val (.int x3), .val r_2, .val r_6, .val r_10, .val (.int z13), .val (.ref b14), .val (.ref r_22), .val (.int (1 : Int32)), .val (.int (1 : Int32)), .val (.int (1 : Int32))] [(.int (1 : Int32))])) _
          refine own_go (fun t_ k_ => XS.goto X46.here hx rfl (pc0 := 198) (pc' := 202) rfl (hb hby at_198) (by decide) (by decide) k_) ?_
          show own_Goes p e below (T46.setTop (mkF m 202 #[.val (.int x0), .val (.int x1), .val (.int x2), .val (.int x3), .val r_2, .val r_6, .val r_10, .val (.int z13), .val (.ref b14), .val (.ref r_22), .val (.int (1 : Int32)), .val (.int (1 : Int32)), .val (.int (1 : Int32))] [(.int (1 : Int32))])) _
          refine own_endN X46 (v := (some (.int (1 : Int32)))) (fun h => by rw [hret] at h; cases h) hlk (by decide) (by decide) ?_ (fun fs hr => retOut X46 hx hret rfl (Or.inl ⟨rfl, Or.inr (Or.inl rfl), _, rfl⟩) (hb hby at_202) hr)
          show Q_rm0 Z x0 x1 x2 x3 gz h0 n0 _ T46.heap _
          rw [e46]
          exact ⟨N46, trivial, rfl⟩
        by_cases hc47 : (x3 &&& (8 : Int32)) = (0 : Int32)
        · refine own_go (fun t_ k_ => XS.ifYes X10.here hx rfl (pc0 := 55) (pc' := 62) rfl (hb hby at_55) rfl ((if0 _ _).trans (teq hc47).1) (by decide) (by decide) k_) ?_
          show own_Goes p e below (T10.setTop (mkF m 62 #[.val (.int x0), .val (.int x1), .val (.int x2), .val (.int x3), .val r_2, .val r_6, .val r_10, .unset, .unset, .unset, .unset, .unset, .unset] [])) _
          refine own_go (fun t_ k_ => XS.iconst X10.here hx rfl (hb hby at_62) k_) ?_
          show own_Goes p e below (T10.setTop (mkF m 63 #[.val (.int x0), .val (.int x1), .val (.int x2), .val (.int x3), .val r_2, .val r_6, .val r_10, .unset, .unset, .unset, .unset, .unset, .unset] [(.int (0 : Int32))])) _
          exact Jz13 (0 : Int32) (Or.inr ⟨rfl, hc47⟩)
        · refine own_go (fun t_ k_ => XS.ifNo X10.here hx rfl (hb hby at_55) rfl ((if0 _ _).trans (feq hc47).1) k_) ?_
          show own_Goes p e below (T10.setTop (mkF m 58 #[.val (.int x0), .val (.int x1), .val (.int x2), .val (.int x3), .val r_2, .val r_6, .val r_10, .unset, .unset, .unset, .unset, .unset, .unset] [])) _
          refine own_go (fun t_ k_ => XS.iconst X10.here hx rfl (hb hby at_58) k_) ?_
          show own_Goes p e below (T10.setTop (mkF m 59 #[.val (.int x0), .val (.int x1), .val (.int x2), .val (.int x3), .val r_2, .val r_6, .val r_10, .unset, .unset, .unset, .unset, .unset, .unset] [(.int (1 : Int32))])) _
          refine own_go (fun t_ k_ => XS.goto X10.here hx rfl (pc0 := 59) (pc' := 63) rfl (hb hby at_59) (by decide) (by decide) k_) ?_
          show own_Goes p e below (T10.setTop (mkF m 63 #[.val (.int x0), .val (.int x1), .val (.int x2), .val (.int x3), .val r_2, .val r_6, .val r_10, .unset, .unset, .unset, .unset, .unset, .unset] [(.int (1 : Int32))])) _
          exact Jz13 (1 : Int32) (Or.inl ⟨rfl, hc47⟩)
      by_cases hc48 : (x3 &&& (4 : Int32)) = (0 : Int32)
      · refine own_go (fun t_ k_ => XS.ifYes X6.here hx rfl (pc0 := 38) (pc' := 45) rfl (hb hby at_38) rfl ((if0 _ _).trans (teq hc48).1) (by decide) (by decide) k_) ?_
        show own_Goes p e below (T6.setTop (mkF m 45 #[.val (.int x0), .val (.int x1), .val (.int x2), .val (.int x3), .val r_2, .val r_6, .unset, .unset, .unset, .unset, .unset, .unset, .unset] [(.int x2)])) _
        refine own_go (fun t_ k_ => XS.iconst X6.here hx rfl (hb hby at_45) k_) ?_
        show own_Goes p e below (T6.setTop (mkF m 46 #[.val (.int x0), .val (.int x1), .val (.int x2), .val (.int x3), .val r_2, .val r_6, .unset, .unset, .unset, .unset, .unset, .unset, .unset] [(.int (0 : Int32)), (.int x2)])) _
        exact Jz9 (0 : Int32) (Or.inr ⟨rfl, hc48⟩)
      · refine own_go (fun t_ k_ => XS.ifNo X6.here hx rfl (hb hby at_38) rfl ((if0 _ _).trans (feq hc48).1) k_) ?_
        show own_Goes p e below (T6.setTop (mkF m 41 #[.val (.int x0), .val (.int x1), .val (.int x2), .val (.int x3), .val r_2, .val r_6, .unset, .unset, .unset, .unset, .unset, .unset, .unset] [(.int x2)])) _
        refine own_go (fun t_ k_ => XS.iconst X6.here hx rfl (hb hby at_41) k_) ?_
        show own_Goes p e below (T6.setTop (mkF m 42 #[.val (.int x0), .val (.int x1), .val (.int x2), .val (.int x3), .val r_2, .val r_6, .unset, .unset, .unset, .unset, .unset, .unset, .unset] [(.int (1 : Int32)), (.int x2)])) _
        refine own_go (fun t_ k_ => XS.goto X6.here hx rfl (pc0 := 42) (pc' := 46) rfl (hb hby at_42) (by decide) (by decide) k_) ?_
        show own_Goes p e below (T6.setTop (mkF m 46 #[.val (.int x0), .val (.int x1), .val (.int x2), .val (.int x3), .val r_2, .val r_6, .unset, .unset, .unset, .unset, .unset, .unset, .unset] [(.int (1 : Int32)), (.int x2)])) _
        exact Jz9 (1 : Int32) (Or.inl ⟨rfl, hc48⟩)
    by_cases hc49 : (x3 &&& (2 : Int32)) = (0 : Int32)
    · refine own_go (fun t_ k_ => XS.ifYes X2.here hx rfl (pc0 := 21) (pc' := 28) rfl (hb hby at_21) rfl ((if0 _ _).trans (teq hc49).1) (by decide) (by decide) k_) ?_
      show own_Goes p e below (T2.setTop (mkF m 28 #[.val (.int x0), .val (.int x1), .val (.int x2), .val (.int x3), .val r_2, .unset, .unset, .unset, .unset, .unset, .unset, .unset, .unset] [(.int x1)])) _
      refine own_go (fun t_ k_ => XS.iconst X2.here hx rfl (hb hby at_28) k_) ?_
      show own_Goes p e below (T2.setTop (mkF m 29 #[.val (.int x0), .val (.int x1), .val (.int x2), .val (.int x3), .val r_2, .unset, .unset, .unset, .unset, .unset, .unset, .unset, .unset] [(.int (0 : Int32)), (.int x1)])) _
      exact Jz5 (0 : Int32) (Or.inr ⟨rfl, hc49⟩)
    · refine own_go (fun t_ k_ => XS.ifNo X2.here hx rfl (hb hby at_21) rfl ((if0 _ _).trans (feq hc49).1) k_) ?_
      show own_Goes p e below (T2.setTop (mkF m 24 #[.val (.int x0), .val (.int x1), .val (.int x2), .val (.int x3), .val r_2, .unset, .unset, .unset, .unset, .unset, .unset, .unset, .unset] [(.int x1)])) _
      refine own_go (fun t_ k_ => XS.iconst X2.here hx rfl (hb hby at_24) k_) ?_
      show own_Goes p e below (T2.setTop (mkF m 25 #[.val (.int x0), .val (.int x1), .val (.int x2), .val (.int x3), .val r_2, .unset, .unset, .unset, .unset, .unset, .unset, .unset, .unset] [(.int (1 : Int32)), (.int x1)])) _
      refine own_go (fun t_ k_ => XS.goto X2.here hx rfl (pc0 := 25) (pc' := 29) rfl (hb hby at_25) (by decide) (by decide) k_) ?_
      show own_Goes p e below (T2.setTop (mkF m 29 #[.val (.int x0), .val (.int x1), .val (.int x2), .val (.int x3), .val r_2, .unset, .unset, .unset, .unset, .unset, .unset, .unset, .unset] [(.int (1 : Int32)), (.int x1)])) _
      exact Jz5 (1 : Int32) (Or.inl ⟨rfl, hc49⟩)
  by_cases hc50 : (x3 &&& (1 : Int32)) = (0 : Int32)
  · refine own_go (fun t_ k_ => XS.ifYes X0.here hx rfl (pc0 := 4) (pc' := 11) rfl (hb hby at_4) rfl ((if0 _ _).trans (teq hc50).1) (by decide) (by decide) k_) ?_
    show own_Goes p e below (s₁.setTop (mkF m 11 #[.val (.int x0), .val (.int x1), .val (.int x2), .val (.int x3), .unset, .unset, .unset, .unset, .unset, .unset, .unset, .unset, .unset] [(.int x0)])) _
    refine own_go (fun t_ k_ => XS.iconst X0.here hx rfl (hb hby at_11) k_) ?_
    show own_Goes p e below (s₁.setTop (mkF m 12 #[.val (.int x0), .val (.int x1), .val (.int x2), .val (.int x3), .unset, .unset, .unset, .unset, .unset, .unset, .unset, .unset, .unset] [(.int (0 : Int32)), (.int x0)])) _
    exact Jz1 (0 : Int32) (Or.inr ⟨rfl, hc50⟩)
  · refine own_go (fun t_ k_ => XS.ifNo X0.here hx rfl (hb hby at_4) rfl ((if0 _ _).trans (feq hc50).1) k_) ?_
    show own_Goes p e below (s₁.setTop (mkF m 7 #[.val (.int x0), .val (.int x1), .val (.int x2), .val (.int x3), .unset, .unset, .unset, .unset, .unset, .unset, .unset, .unset, .unset] [(.int x0)])) _
    refine own_go (fun t_ k_ => XS.iconst X0.here hx rfl (hb hby at_7) k_) ?_
    show own_Goes p e below (s₁.setTop (mkF m 8 #[.val (.int x0), .val (.int x1), .val (.int x2), .val (.int x3), .unset, .unset, .unset, .unset, .unset, .unset, .unset, .unset, .unset] [(.int (1 : Int32)), (.int x0)])) _
    refine own_go (fun t_ k_ => XS.goto X0.here hx rfl (pc0 := 8) (pc' := 12) rfl (hb hby at_8) (by decide) (by decide) k_) ?_
    show own_Goes p e below (s₁.setTop (mkF m 12 #[.val (.int x0), .val (.int x1), .val (.int x2), .val (.int x3), .unset, .unset, .unset, .unset, .unset, .unset, .unset, .unset, .unset] [(.int (1 : Int32)), (.int x0)])) _
    exact Jz1 (1 : Int32) (Or.inl ⟨rfl, hc50⟩)
set_option maxRecDepth 65536 in
set_option maxHeartbeats 40000000 in
theorem comes_1 {Post : Tables → Env → Array Value → State → Outcome → State → Prop} (hpost : ∀ tb e args s v u, (limb_1_1.after args s (.returned v) u = true ∧ limb_1_2.after args s (.returned v) u = true ∧ True) → FrameEnd s (.returned v) u (Jvm.fieldLocs frame_1_writes args s ++ Jvm.arrayLocs frame_1_arrays args s ++ Jvm.staticLocs frame_1_statics s) 32 192 → Post tb e args s (.returned v) u) :
    ArmFor flags0 classFile x code maxLocals ret World_1 tables_1 room_1 Calls_1 rest_1 Pre_1 Post := by
  intro l hfl _ _ p e ha hc hk s m args below hf hA hF happ hP
  obtain ⟨hcalls, hrest, hpre⟩ := hP
  obtain ⟨-, -, -, hnamed, -, -, -, hat⟩ := (Spec.applies_iff hf).mp happ
  obtain ⟨hg, hn⟩ := and_e (Cond.before_iff.mp (show (Jvm.Cond.and given_1 narrow_1).before args s = true from hpre))
  obtain ⟨hg_1, hg_2⟩ := and_e hg
  obtain ⟨hg_3, hg_4⟩ := and_e hg_2
  obtain ⟨hg_5, hg_6⟩ := and_e hg_4
  obtain ⟨hg_7, hg_8⟩ := and_e hg_6
  obtain ⟨w0, w1, w2, w3, rfl⟩ : ∃ w0 w1 w2 w3 : Value, args = #[w0, w1, w2, w3] := by
    have hs : args.size = 4 := by simpa [Cond.value, given_1] using hg_1
    obtain ⟨L⟩ := args
    match L, hs with
    | [w0, w1, w2, w3], _ => exact ⟨w0, w1, w2, w3, rfl⟩
  have hw := fun d (hd : d ∈ tables_1) => atoms_spec (ws := Jvm.Cond.code x code maxLocals ret :: tables_1) hat d (List.mem_cons_of_mem _ hd)
  have hfit : Fit s := fun {y c} hc i hi => by
    obtain ⟨ha, rfl⟩ := Array.getElem?_eq_some_iff.mp hc
    have q := List.all_eq_true.mp ((Array.all_eq_true_iff_forall_mem.mp hF) _ (Array.getElem_mem ha)) i (List.mem_range.mpr hi)
    simpa [Array.getElem?_eq_getElem hi] using q
  obtain ⟨hsets, hown0⟩ := atoms_of _ (rest_1_c_eq ▸ (show rest_1_c.before _ s = true from hrest))
  have hr0 := Cond.before_iff.mp hown0
  obtain ⟨i0, ei0⟩ := is_v hg_3
  obtain rfl : w0 = (.int i0) := Option.some.inj ei0
  obtain ⟨i1, ei1⟩ := is_v hg_5
  obtain rfl : w1 = (.int i1) := Option.some.inj ei1
  obtain ⟨i2, ei2⟩ := is_v hg_7
  obtain rfl : w2 = (.int i2) := Option.some.inj ei2
  obtain ⟨i3, ei3⟩ := is_v hg_8
  obtain rfl : w3 = (.int i3) := Option.some.inj ei3
  obtain ⟨gz, ez⟩ := is_v (Cond.before_iff.mp (hsets _ (List.mem_of_getElem? (i := 1) rfl)))
  have sz_ := Sta.start ez (Or.inl (hsets _ (List.mem_of_getElem? (i := 0) rfl)))
  have nz_ : ¬ gz = (0 : Int32) := gotF (Cond.eq_ints ez (Term.int_eval _)) (not_v (Cond.before_iff.mp (hsets _ (List.mem_of_getElem? (i := 2) rfl))))
  obtain ⟨n, o, h1, h2, h3, _, L, rfl, ⟨N, -, rfl⟩, hq⟩ := rm0 l s _ hw tables_1 i0 i1 i2 i3 s.heap s.heap.size (Old.start s) gz ⟨sz_, nz_⟩ p e ha hc hk s m _ below hf ((Spec.applies_iff_loose hf).mp happ).1 ⟨rfl, State.Warmed39.refl s, rfl⟩ trivial
  refine ⟨n, _, h1, h2, h3, hpost _ _ _ _ _ _ ⟨Cond.after_iff.mpr rfl, Cond.after_iff.mpr (eq_i res_at (Term.int_eval (1)) rfl), trivial⟩ ⟨hq.1, hq.2.1, (hq.2.2.sift fun y hy => Or.inr (N y hy)).mono (by decide) (by decide)⟩⟩
theorem main_1_1 : Claimed_1_1 := comes_1 fun _ _ _ _ _ _ h hF => ⟨h.1, hF⟩
theorem main_1_2 : Claimed_1_2 := comes_1 fun _ _ _ _ _ _ h hF => ⟨h.2.1, hF⟩
end Jvm.Pilot.@@N@@
namespace Jvm.Pilot.@@N@@
open Jvm Jvm.ClassFile Sem Op Lib Jvm.Free Jvm.Stand Jvm.Pilot.@@N@@.Jvm.D
/-! MADE BY PROGRAM (witnessworld.py) out of the Statement's table words and the real class files: 20 classes; the members and pool entries that the words name. The judged class is class 1, her method 3. -/
namespace start1
open Jvm.ClassFile
def u (s : String) : CpInfo := .utf8 (stringToUtf16 s)
/-- a pool by its gaps: so many unusable entries, then the entry; so many at the end -/
def gap : Nat → List CpInfo → List CpInfo
  | 0, r => r
  | n + 1, r => .unusable :: gap n r
def poolList (es : List (Nat × CpInfo)) (last : Nat) : List CpInfo := es.foldr (fun e r => gap e.1 (e.2 :: r)) (gap last [])
def pool (es : List (Nat × CpInfo)) (last : Nat) : Array CpInfo := ⟨poolList es last⟩
def fileOf (pool : Array CpInfo) (this : Nat) (attrs : Array Attribute := #[]) (ms : Array MethodInfo := #[]) (fl : Nat := 33) (sup : Nat := 0) (ifs : Array Nat := #[]) (fds : Array FieldInfo := #[]) : ClassFile where
  minorVersion := 0
  majorVersion := 65
  constantPool := pool
  accessFlags := fl
  thisClass := this
  superClass := sup
  interfaces := ifs
  fields := fds
  methods := ms
  attributes := attrs
def plain (name : String) (sup : Option ClassId) : Class where
  name := name
  kind := .ordinary
  loader := none
  accessFlags := 33
  super := sup
  interfaces := #[]
  cf := none
  fields := #[]
  methods := #[]
  instanceTypes := #[]
  staticTypes := #[]
  resolved := #[]
  callSites := []
  init := .initialized
  statics := none
  mirror := none

def pool0 : Array CpInfo := pool [(5, u "<init>"), (0, u "()V"), (1, .class_ 10), (1, u "java/lang/Object")] 113

def k0c0 : Code := { maxStack := 0, maxLocals := 1, code := object_method_1_code, exceptionTable := #[], attributes := #[] }
def k0m0 : Method := { name := "<init>", desc := "()V", sig := { parameters := [], returnType := none }, accessFlags := 1, code := some k0c0 }
/-- java/lang/Object -/
def k0 : Class := { plain "java/lang/Object" none with
  accessFlags := 33
  interfaces := #[]
  cf := some (fileOf pool0 8 #[] #[{ accessFlags := 1, nameIndex := 5, descriptorIndex := 6, attributes := #[] }] 33 0 #[] #[])
  fields := #[]
  methods := #[k0m0]
  instanceTypes := #[]
  staticTypes := #[]
  resolved := Array.replicate 124 none
  statics := none }

def pool1 : Array CpInfo := pool [(2, .class_ 4), (1, u "java/lang/Object"), (0, u "<init>"), (0, u "()V"), (0, .class_ 8), (0, u "java/lang/String"), (0, .methodref 7 10), (0, .nameAndType 5 11), (0, u "([C)V"), (0, .methodref 7 13), (0, .nameAndType 14 15), (0, u "equals"), (0, u "(Ljava/lang/Object;)Z"), (0, .methodref 17 18), (0, .class_ 19), (0, .nameAndType 20 21), (0, u "com/example/saasy/saasy/ledger/RenewalCancellingAPeriodPinLaw"), (0, u "str"), (0, u "(IZ)Ljava/lang/String;"), (0, .class_ 23), (0, u "com/example/saasy/saasy/ledger/Renewal"), (0, .methodref 22 25), (0, .nameAndType 5 26), (0, u "(Ljava/lang/String;Ljava/lang/String;Ljava/lang/String;Z)V"), (0, .methodref 22 28), (0, .nameAndType 29 30), (0, u "cancellingAPeriod"), (0, u "()Lcom/example/saasy/saasy/ledger/Renewal;"), (0, .methodref 22 32), (0, .nameAndType 33 34), (0, u "orderId"), (0, u "()Ljava/lang/String;"), (0, .methodref 17 36), (0, .nameAndType 37 38), (0, u "same"), (0, u "(Ljava/lang/String;Ljava/lang/String;)Z"), (0, .methodref 22 40), (0, .nameAndType 41 34), (0, u "expireTime"), (0, .methodref 22 43), (0, .nameAndType 44 34), (0, u "productId"), (0, .methodref 22 46), (0, .nameAndType 47 48), (0, u "endsTrial"), (0, u "()Z"), (0, .methodref 22 50), (0, .nameAndType 51 48), (0, u "cancelsAPeriod"), (0, .methodref 22 53), (0, .nameAndType 54 48), (0, u "unfreezes"), (3, u "law"), (0, u "(IIII)Z")] 2

def k1m0 : Method := { name := "<init>", desc := "()V", sig := { parameters := [], returnType := none }, accessFlags := 1, code := none }
def k1c1 : Code := { maxStack := 4, maxLocals := 3, code := method_2_code, exceptionTable := #[], attributes := #[] }
def k1m1 : Method := { name := "str", desc := "(IZ)Ljava/lang/String;", sig := { parameters := [.int, .boolean], returnType := some (.object "java/lang/String") }, accessFlags := 10, code := some k1c1 }
def k1c2 : Code := { maxStack := 2, maxLocals := 2, code := method_3_code, exceptionTable := #[], attributes := #[] }
def k1m2 : Method := { name := "same", desc := "(Ljava/lang/String;Ljava/lang/String;)Z", sig := { parameters := [(.object "java/lang/String"), (.object "java/lang/String")], returnType := some .boolean }, accessFlags := 10, code := some k1c2 }
def k1c3 : Code := { maxStack := 6, maxLocals := 13, code := code, exceptionTable := #[], attributes := #[] }
def k1m3 : Method := { name := "law", desc := "(IIII)Z", sig := { parameters := [.int, .int, .int, .int], returnType := some .boolean }, accessFlags := 9, code := some k1c3 }
/-- com/example/saasy/saasy/ledger/RenewalCancellingAPeriodPinLaw -/
def k1 : Class := { plain "com/example/saasy/saasy/ledger/RenewalCancellingAPeriodPinLaw" (some 0) with
  accessFlags := 49
  interfaces := #[]
  cf := some (fileOf pool1 17 #[] #[{ accessFlags := 1, nameIndex := 5, descriptorIndex := 6, attributes := #[] }, { accessFlags := 10, nameIndex := 20, descriptorIndex := 21, attributes := #[] }, { accessFlags := 10, nameIndex := 37, descriptorIndex := 38, attributes := #[] }, { accessFlags := 9, nameIndex := 58, descriptorIndex := 59, attributes := #[] }] 49 2 #[] #[])
  fields := #[]
  methods := #[k1m0, k1m1, k1m2, k1m3]
  instanceTypes := #[]
  staticTypes := #[]
  resolved := Array.replicate 62 none
  statics := none }

def pool2 : Array CpInfo := pool [(1, .class_ 2), (0, u "java/io/Serializable"), (0, .class_ 4), (0, u "java/lang/Object")] 2

/-- java/io/Serializable -/
def k2 : Class := { plain "java/io/Serializable" (some 0) with
  accessFlags := 1537
  interfaces := #[]
  cf := some (fileOf pool2 1 #[] #[] 1537 3 #[] #[])
  fields := #[]
  methods := #[]
  instanceTypes := #[]
  staticTypes := #[]
  resolved := Array.replicate 7 none
  statics := none }

def pool3 : Array CpInfo := pool [(1, .class_ 2), (0, u "java/lang/Comparable"), (0, .class_ 4), (0, u "java/lang/Object")] 7

/-- java/lang/Comparable -/
def k3 : Class := { plain "java/lang/Comparable" (some 0) with
  accessFlags := 1537
  interfaces := #[]
  cf := some (fileOf pool3 1 #[] #[] 1537 3 #[] #[])
  fields := #[]
  methods := #[]
  instanceTypes := #[]
  staticTypes := #[]
  resolved := Array.replicate 12 none
  statics := none }

def pool4 : Array CpInfo := pool [(2, .class_ 4), (1, u "java/lang/CharSequence"), (42, .class_ 48), (0, u "java/lang/CharSequence$1CodePointIterator"), (10, .class_ 60), (0, u "java/lang/CharSequence$1CharIterator"), (5, .class_ 67), (0, u "java/lang/Object")] 63

/-- java/lang/CharSequence -/
def k4 : Class := { plain "java/lang/CharSequence" (some 0) with
  accessFlags := 1537
  interfaces := #[]
  cf := some (fileOf pool4 2 #[.nestMembers #[47, 59]] #[] 1537 66 #[] #[])
  fields := #[]
  methods := #[]
  instanceTypes := #[]
  staticTypes := #[]
  resolved := Array.replicate 131 none
  statics := none }

def pool5 : Array CpInfo := pool [(1, .class_ 2), (0, u "java/lang/constant/Constable"), (0, .class_ 4), (0, u "java/lang/Object")] 6

/-- java/lang/constant/Constable -/
def k5 : Class := { plain "java/lang/constant/Constable" (some 0) with
  accessFlags := 1537
  interfaces := #[]
  cf := some (fileOf pool5 1 #[] #[] 1537 3 #[] #[])
  fields := #[]
  methods := #[]
  instanceTypes := #[]
  staticTypes := #[]
  resolved := Array.replicate 11 none
  statics := none }

def pool6 : Array CpInfo := pool [(1, .class_ 2), (0, u "java/lang/constant/ConstantDesc"), (0, .class_ 4), (0, u "java/lang/Object")] 32

/-- java/lang/constant/ConstantDesc -/
def k6 : Class := { plain "java/lang/constant/ConstantDesc" (some 0) with
  accessFlags := 1537
  interfaces := #[]
  cf := some (fileOf pool6 1 #[] #[] 1537 3 #[] #[])
  fields := #[]
  methods := #[]
  instanceTypes := #[]
  staticTypes := #[]
  resolved := Array.replicate 37 none
  statics := none }

def pool7 : Array CpInfo := pool [(1, .methodref 2 3), (0, .class_ 4), (0, .nameAndType 5 6), (0, u "java/lang/Object"), (0, u "<init>"), (0, u "()V"), (2, .fieldref 10 11), (0, .class_ 12), (0, .nameAndType 13 14), (0, u "java/lang/String"), (0, u "value"), (0, u "[B"), (0, .fieldref 10 16), (0, .nameAndType 17 18), (0, u "coder"), (0, u "B"), (2, u "hash"), (0, u "I"), (2, u "hashIsZero"), (0, u "Z"), (0, .methodref 10 28), (0, .nameAndType 5 29), (0, u "([CIILjava/lang/Void;)V"), (8, .fieldref 10 39), (0, .nameAndType 40 26), (0, u "COMPACT_STRINGS"), (1, .class_ 44), (1, u "java/lang/StringUTF16"), (0, u "compress"), (1, .methodref 42 48), (0, .nameAndType 49 50), (0, u "coderFromArrayLen"), (0, u "([BI)B"), (126, .methodref 42 178), (0, .nameAndType 45 179), (0, u "([CII)[B"), (363, u "equals"), (29, u "(Ljava/lang/Object;)Z"), (1, .class_ 576), (0, u "java/lang/CharSequence"), (22, u "CASE_INSENSITIVE_ORDER"), (0, u "Ljava/util/Comparator;"), (409, u "([C)V"), (90, u "serialPersistentFields"), (0, u "[Ljava/io/ObjectStreamField;"), (0, .class_ 1104), (0, u "java/lang/String$CaseInsensitiveComparator"), (1, .class_ 1107), (0, u "java/io/Serializable"), (0, .class_ 1109), (0, u "java/lang/Comparable"), (0, .class_ 1111), (0, u "java/lang/constant/Constable"), (0, .class_ 1113), (0, u "java/lang/constant/ConstantDesc"), (2, u "serialVersionUID"), (0, u "J"), (3, u "REPL"), (0, u "C"), (2, u "LATIN1"), (1, u "UTF16")] 323

def k7m0 : Method := { name := "<init>", desc := "()V", sig := { parameters := [], returnType := none }, accessFlags := 1, code := none }
def k7c1 : Code := { maxStack := 5, maxLocals := 2, code := jdk_42_method_3_code, exceptionTable := #[], attributes := #[] }
def k7m1 : Method := { name := "<init>", desc := "([C)V", sig := { parameters := [(.array .char)], returnType := none }, accessFlags := 1, code := some k7c1 }
def k7c2 : Code := { maxStack := 2, maxLocals := 3, code := jdk_42_method_66_code, exceptionTable := #[], attributes := #[] }
def k7m2 : Method := { name := "equals", desc := "(Ljava/lang/Object;)Z", sig := { parameters := [(.object "java/lang/Object")], returnType := some .boolean }, accessFlags := 1, code := some k7c2 }
def k7c3 : Code := { maxStack := 4, maxLocals := 6, code := jdk_42_method_149_code, exceptionTable := #[], attributes := #[] }
def k7m3 : Method := { name := "<init>", desc := "([CIILjava/lang/Void;)V", sig := { parameters := [(.array .char), .int, .int, (.object "java/lang/Void")], returnType := none }, accessFlags := 2, code := some k7c3 }
/-- java/lang/String -/
def k7 : Class := { plain "java/lang/String" (some 0) with
  accessFlags := 49
  interfaces := #[2, 3, 4, 5, 6]
  cf := some (fileOf pool7 10 #[.nestMembers #[1103]] #[{ accessFlags := 1, nameIndex := 5, descriptorIndex := 6, attributes := #[] }, { accessFlags := 1, nameIndex := 5, descriptorIndex := 1010, attributes := #[] }, { accessFlags := 1, nameIndex := 543, descriptorIndex := 573, attributes := #[] }, { accessFlags := 2, nameIndex := 5, descriptorIndex := 29, attributes := #[] }] 49 2 #[1106, 1108, 575, 1110, 1112] #[{ accessFlags := 18, nameIndex := 13, descriptorIndex := 14, attributes := #[] }, { accessFlags := 18, nameIndex := 17, descriptorIndex := 18, attributes := #[] }, { accessFlags := 2, nameIndex := 21, descriptorIndex := 22, attributes := #[] }, { accessFlags := 2, nameIndex := 25, descriptorIndex := 26, attributes := #[] }, { accessFlags := 26, nameIndex := 1116, descriptorIndex := 1117, attributes := #[] }, { accessFlags := 24, nameIndex := 40, descriptorIndex := 26, attributes := #[] }, { accessFlags := 26, nameIndex := 1101, descriptorIndex := 1102, attributes := #[] }, { accessFlags := 26, nameIndex := 1121, descriptorIndex := 1122, attributes := #[] }, { accessFlags := 25, nameIndex := 599, descriptorIndex := 600, attributes := #[] }, { accessFlags := 24, nameIndex := 1125, descriptorIndex := 18, attributes := #[] }, { accessFlags := 24, nameIndex := 1127, descriptorIndex := 18, attributes := #[] }])
  fields := #[{ name := "value", type := (.array .byte), accessFlags := 18, slot := 0, constantValue := 0 }, { name := "coder", type := .byte, accessFlags := 18, slot := 1, constantValue := 0 }, { name := "hash", type := .int, accessFlags := 2, slot := 2, constantValue := 0 }, { name := "hashIsZero", type := .boolean, accessFlags := 2, slot := 3, constantValue := 0 }, { name := "serialVersionUID", type := .long, accessFlags := 26, slot := 0, constantValue := 0 }, { name := "COMPACT_STRINGS", type := .boolean, accessFlags := 24, slot := 1, constantValue := 0 }, { name := "serialPersistentFields", type := (.array (.object "java/io/ObjectStreamField")), accessFlags := 26, slot := 2, constantValue := 0 }, { name := "REPL", type := .char, accessFlags := 26, slot := 3, constantValue := 0 }, { name := "CASE_INSENSITIVE_ORDER", type := (.object "java/util/Comparator"), accessFlags := 25, slot := 4, constantValue := 0 }, { name := "LATIN1", type := .byte, accessFlags := 24, slot := 5, constantValue := 0 }, { name := "UTF16", type := .byte, accessFlags := 24, slot := 6, constantValue := 0 }]
  methods := #[k7m0, k7m1, k7m2, k7m3]
  instanceTypes := #[(.array .byte), .byte, .int, .boolean]
  staticTypes := #[.long, .boolean, (.array (.object "java/io/ObjectStreamField")), .char, (.object "java/util/Comparator"), .byte, .byte]
  resolved := Array.replicate 1451 none
  statics := some 0 }

def pool8 : Array CpInfo := pool [(6, .class_ 8), (1, u "java/lang/Object"), (0, u "<init>"), (0, u "()V"), (1, .class_ 14), (1, u "java/lang/StringUTF16"), (31, u "$assertionsDisabled"), (0, u "Z"), (13, u "HI_BYTE_SHIFT"), (0, u "I"), (2, u "LO_BYTE_SHIFT"), (49, .methodref 12 116), (0, .nameAndType 117 118), (0, u "compress"), (0, u "([CI[BII)I"), (3, u "([CII)[B"), (138, u "coderFromArrayLen"), (0, u "([BI)B"), (106, .class_ 371), (1, u "java/lang/StringUTF16$LinesSpliterator"), (58, u "MAX_LENGTH"), (196, .class_ 628), (0, u "java/lang/StringUTF16$CodePointsSpliterator"), (0, .class_ 630), (0, u "java/lang/StringUTF16$CharsSpliterator")] 4

def k8m0 : Method := { name := "<init>", desc := "()V", sig := { parameters := [], returnType := none }, accessFlags := 0, code := none }
def k8c1 : Code := { maxStack := 2, maxLocals := 2, code := jdk_52_method_15_code, exceptionTable := #[], attributes := #[] }
def k8m1 : Method := { name := "coderFromArrayLen", desc := "([BI)B", sig := { parameters := [(.array .byte), .int], returnType := some .byte }, accessFlags := 8, code := some k8c1 }
def k8c2 : Code := { maxStack := 5, maxLocals := 6, code := jdk_52_method_16_code, exceptionTable := #[], attributes := #[] }
def k8m2 : Method := { name := "compress", desc := "([CII)[B", sig := { parameters := [(.array .char), .int, .int], returnType := some (.array .byte) }, accessFlags := 9, code := some k8c2 }
def k8c3 : Code := { maxStack := 3, maxLocals := 7, code := jdk_52_method_21_code, exceptionTable := #[], attributes := #[] }
def k8m3 : Method := { name := "compress", desc := "([CI[BII)I", sig := { parameters := [(.array .char), .int, (.array .byte), .int, .int], returnType := some .int }, accessFlags := 9, code := some k8c3 }
/-- java/lang/StringUTF16 -/
def k8 : Class := { plain "java/lang/StringUTF16" (some 0) with
  accessFlags := 48
  interfaces := #[]
  cf := some (fileOf pool8 12 #[.nestMembers #[627, 629, 369]] #[{ accessFlags := 0, nameIndex := 9, descriptorIndex := 10, attributes := #[] }, { accessFlags := 8, nameIndex := 261, descriptorIndex := 262, attributes := #[] }, { accessFlags := 9, nameIndex := 117, descriptorIndex := 122, attributes := #[] }, { accessFlags := 9, nameIndex := 117, descriptorIndex := 118, attributes := #[] }] 48 6 #[] #[{ accessFlags := 26, nameIndex := 61, descriptorIndex := 62, attributes := #[] }, { accessFlags := 26, nameIndex := 65, descriptorIndex := 62, attributes := #[] }, { accessFlags := 24, nameIndex := 430, descriptorIndex := 62, attributes := #[] }, { accessFlags := 4120, nameIndex := 46, descriptorIndex := 47, attributes := #[] }])
  fields := #[{ name := "HI_BYTE_SHIFT", type := .int, accessFlags := 26, slot := 0, constantValue := 0 }, { name := "LO_BYTE_SHIFT", type := .int, accessFlags := 26, slot := 1, constantValue := 0 }, { name := "MAX_LENGTH", type := .int, accessFlags := 24, slot := 2, constantValue := 0 }, { name := "$assertionsDisabled", type := .boolean, accessFlags := 4120, slot := 3, constantValue := 0 }]
  methods := #[k8m0, k8m1, k8m2, k8m3]
  instanceTypes := #[]
  staticTypes := #[.int, .int, .int, .boolean]
  resolved := Array.replicate 635 none
  statics := none }

def pool9 : Array CpInfo := pool [(1, .methodref 2 3), (0, .class_ 4), (0, .nameAndType 5 6), (0, u "com/example/saasy/saasy/ledger/Renewal"), (0, u "<init>"), (0, u "(Ljava/lang/String;Ljava/lang/String;Ljava/lang/String;ZZLjava/time/Instant;)V"), (0, .methodref 8 9), (0, .class_ 10), (0, .nameAndType 5 11), (0, u "java/lang/Object"), (0, u "()V"), (0, .fieldref 2 13), (0, .nameAndType 14 15), (0, u "orderId"), (0, u "Ljava/lang/String;"), (0, .fieldref 2 17), (0, .nameAndType 18 15), (0, u "expireTime"), (0, .fieldref 2 20), (0, .nameAndType 21 15), (0, u "productId"), (0, .fieldref 2 23), (0, .nameAndType 24 25), (0, u "endsTrial"), (0, u "Z"), (0, .fieldref 2 27), (0, .nameAndType 28 25), (0, u "cancelsAPeriod"), (0, .fieldref 2 30), (0, .nameAndType 31 32), (0, u "unfreezesOnlyAfter"), (0, u "Ljava/time/Instant;"), (12, u "(Ljava/lang/String;Ljava/lang/String;Ljava/lang/String;Z)V"), (2, u "cancellingAPeriod"), (0, u "()Lcom/example/saasy/saasy/ledger/Renewal;"), (2, u "()Ljava/lang/String;"), (0, u "()Z"), (0, u "unfreezes")] 3

def k9c0 : Code := { maxStack := 7, maxLocals := 5, code := prog_15_method_1_code, exceptionTable := #[], attributes := #[] }
def k9m0 : Method := { name := "<init>", desc := "(Ljava/lang/String;Ljava/lang/String;Ljava/lang/String;Z)V", sig := { parameters := [(.object "java/lang/String"), (.object "java/lang/String"), (.object "java/lang/String"), .boolean], returnType := none }, accessFlags := 1, code := some k9c0 }
def k9c1 : Code := { maxStack := 2, maxLocals := 7, code := prog_15_method_2_code, exceptionTable := #[], attributes := #[] }
def k9m1 : Method := { name := "<init>", desc := "(Ljava/lang/String;Ljava/lang/String;Ljava/lang/String;ZZLjava/time/Instant;)V", sig := { parameters := [(.object "java/lang/String"), (.object "java/lang/String"), (.object "java/lang/String"), .boolean, .boolean, (.object "java/time/Instant")], returnType := none }, accessFlags := 2, code := some k9c1 }
def k9c2 : Code := { maxStack := 8, maxLocals := 1, code := prog_15_method_3_code, exceptionTable := #[], attributes := #[] }
def k9m2 : Method := { name := "cancellingAPeriod", desc := "()Lcom/example/saasy/saasy/ledger/Renewal;", sig := { parameters := [], returnType := some (.object "com/example/saasy/saasy/ledger/Renewal") }, accessFlags := 1, code := some k9c2 }
def k9c3 : Code := { maxStack := 1, maxLocals := 1, code := prog_15_method_5_code, exceptionTable := #[], attributes := #[] }
def k9m3 : Method := { name := "orderId", desc := "()Ljava/lang/String;", sig := { parameters := [], returnType := some (.object "java/lang/String") }, accessFlags := 0, code := some k9c3 }
def k9c4 : Code := { maxStack := 1, maxLocals := 1, code := prog_15_method_6_code, exceptionTable := #[], attributes := #[] }
def k9m4 : Method := { name := "expireTime", desc := "()Ljava/lang/String;", sig := { parameters := [], returnType := some (.object "java/lang/String") }, accessFlags := 0, code := some k9c4 }
def k9c5 : Code := { maxStack := 1, maxLocals := 1, code := prog_15_method_7_code, exceptionTable := #[], attributes := #[] }
def k9m5 : Method := { name := "productId", desc := "()Ljava/lang/String;", sig := { parameters := [], returnType := some (.object "java/lang/String") }, accessFlags := 0, code := some k9c5 }
def k9c6 : Code := { maxStack := 1, maxLocals := 1, code := prog_15_method_8_code, exceptionTable := #[], attributes := #[] }
def k9m6 : Method := { name := "endsTrial", desc := "()Z", sig := { parameters := [], returnType := some .boolean }, accessFlags := 0, code := some k9c6 }
def k9c7 : Code := { maxStack := 1, maxLocals := 1, code := prog_15_method_9_code, exceptionTable := #[], attributes := #[] }
def k9m7 : Method := { name := "cancelsAPeriod", desc := "()Z", sig := { parameters := [], returnType := some .boolean }, accessFlags := 0, code := some k9c7 }
def k9c8 : Code := { maxStack := 2, maxLocals := 1, code := prog_15_method_10_code, exceptionTable := #[], attributes := #[] }
def k9m8 : Method := { name := "unfreezes", desc := "()Z", sig := { parameters := [], returnType := some .boolean }, accessFlags := 0, code := some k9c8 }
/-- com/example/saasy/saasy/ledger/Renewal -/
def k9 : Class := { plain "com/example/saasy/saasy/ledger/Renewal" (some 0) with
  accessFlags := 49
  interfaces := #[]
  cf := some (fileOf pool9 2 #[] #[{ accessFlags := 1, nameIndex := 5, descriptorIndex := 45, attributes := #[] }, { accessFlags := 2, nameIndex := 5, descriptorIndex := 6, attributes := #[] }, { accessFlags := 1, nameIndex := 48, descriptorIndex := 49, attributes := #[] }, { accessFlags := 0, nameIndex := 14, descriptorIndex := 52, attributes := #[] }, { accessFlags := 0, nameIndex := 18, descriptorIndex := 52, attributes := #[] }, { accessFlags := 0, nameIndex := 21, descriptorIndex := 52, attributes := #[] }, { accessFlags := 0, nameIndex := 24, descriptorIndex := 53, attributes := #[] }, { accessFlags := 0, nameIndex := 28, descriptorIndex := 53, attributes := #[] }, { accessFlags := 0, nameIndex := 54, descriptorIndex := 53, attributes := #[] }] 49 8 #[] #[{ accessFlags := 18, nameIndex := 14, descriptorIndex := 15, attributes := #[] }, { accessFlags := 18, nameIndex := 18, descriptorIndex := 15, attributes := #[] }, { accessFlags := 18, nameIndex := 21, descriptorIndex := 15, attributes := #[] }, { accessFlags := 18, nameIndex := 24, descriptorIndex := 25, attributes := #[] }, { accessFlags := 18, nameIndex := 28, descriptorIndex := 25, attributes := #[] }, { accessFlags := 18, nameIndex := 31, descriptorIndex := 32, attributes := #[] }])
  fields := #[{ name := "orderId", type := (.object "java/lang/String"), accessFlags := 18, slot := 0, constantValue := 0 }, { name := "expireTime", type := (.object "java/lang/String"), accessFlags := 18, slot := 1, constantValue := 0 }, { name := "productId", type := (.object "java/lang/String"), accessFlags := 18, slot := 2, constantValue := 0 }, { name := "endsTrial", type := .boolean, accessFlags := 18, slot := 3, constantValue := 0 }, { name := "cancelsAPeriod", type := .boolean, accessFlags := 18, slot := 4, constantValue := 0 }, { name := "unfreezesOnlyAfter", type := (.object "java/time/Instant"), accessFlags := 18, slot := 5, constantValue := 0 }]
  methods := #[k9m0, k9m1, k9m2, k9m3, k9m4, k9m5, k9m6, k9m7, k9m8]
  instanceTypes := #[(.object "java/lang/String"), (.object "java/lang/String"), (.object "java/lang/String"), .boolean, .boolean, (.object "java/time/Instant")]
  staticTypes := #[]
  resolved := Array.replicate 58 none
  statics := none }

def pool10 : Array CpInfo := pool [(4, .class_ 6), (1, u "java/lang/Object"), (0, u "<init>"), (0, u "()V"), (5, .class_ 16), (1, u "java/lang/StringLatin1"), (104, u "$assertionsDisabled"), (0, u "Z"), (98, .class_ 223), (1, u "java/lang/StringLatin1$LinesSpliterator"), (166, .class_ 391), (0, u "java/lang/StringLatin1$CharsSpliterator")] 3

def k10m0 : Method := { name := "<init>", desc := "()V", sig := { parameters := [], returnType := none }, accessFlags := 0, code := none }
/-- java/lang/StringLatin1 -/
def k10 : Class := { plain "java/lang/StringLatin1" (some 0) with
  accessFlags := 48
  interfaces := #[]
  cf := some (fileOf pool10 14 #[.nestMembers #[390, 221]] #[{ accessFlags := 0, nameIndex := 7, descriptorIndex := 8, attributes := #[] }] 48 4 #[] #[{ accessFlags := 4120, nameIndex := 121, descriptorIndex := 122, attributes := #[] }])
  fields := #[{ name := "$assertionsDisabled", type := .boolean, accessFlags := 4120, slot := 0, constantValue := 0 }]
  methods := #[k10m0]
  instanceTypes := #[]
  staticTypes := #[.boolean]
  resolved := Array.replicate 395 none
  statics := none }

def pool11 : Array CpInfo := pool [(2, .class_ 4), (1, u "java/lang/Object"), (0, u "<init>"), (0, u "()V"), (17, .class_ 26), (1, u "jdk/internal/util/Preconditions"), (28, .class_ 56), (0, u "jdk/internal/util/Preconditions$4"), (57, .class_ 115), (0, u "jdk/internal/util/Preconditions$1"), (7, u "SIOOBE_FORMATTER"), (0, u "Ljava/util/function/BiFunction;"), (0, .class_ 126), (0, u "jdk/internal/util/Preconditions$2"), (3, u "AIOOBE_FORMATTER"), (0, .class_ 132), (0, u "jdk/internal/util/Preconditions$3"), (3, u "IOOBE_FORMATTER")] 57

def k11m0 : Method := { name := "<init>", desc := "()V", sig := { parameters := [], returnType := none }, accessFlags := 1, code := none }
/-- jdk/internal/util/Preconditions -/
def k11 : Class := { plain "jdk/internal/util/Preconditions" (some 0) with
  accessFlags := 33
  interfaces := #[]
  cf := some (fileOf pool11 24 #[.nestMembers #[55, 131, 125, 114]] #[{ accessFlags := 1, nameIndex := 5, descriptorIndex := 6, attributes := #[] }] 33 2 #[] #[{ accessFlags := 25, nameIndex := 123, descriptorIndex := 124, attributes := #[] }, { accessFlags := 25, nameIndex := 130, descriptorIndex := 124, attributes := #[] }, { accessFlags := 25, nameIndex := 136, descriptorIndex := 124, attributes := #[] }])
  fields := #[{ name := "SIOOBE_FORMATTER", type := (.object "java/util/function/BiFunction"), accessFlags := 25, slot := 0, constantValue := 0 }, { name := "AIOOBE_FORMATTER", type := (.object "java/util/function/BiFunction"), accessFlags := 25, slot := 1, constantValue := 0 }, { name := "IOOBE_FORMATTER", type := (.object "java/util/function/BiFunction"), accessFlags := 25, slot := 2, constantValue := 0 }]
  methods := #[k11m0]
  instanceTypes := #[]
  staticTypes := #[(.object "java/util/function/BiFunction"), (.object "java/util/function/BiFunction"), (.object "java/util/function/BiFunction")]
  resolved := Array.replicate 194 none
  statics := some 1 }

def pool12 : Array CpInfo := pool [(9, u "<init>"), (6, .class_ 18), (1, u "java/lang/Object"), (0, u "()V"), (1, .class_ 23), (1, u "jdk/internal/util/ArraysSupport"), (0, u "LOG2_ARRAY_LONG_INDEX_SCALE"), (0, u "I"), (2, u "U"), (0, u "Ljdk/internal/misc/Unsafe;"), (8, u "BIG_ENDIAN"), (0, u "Z"), (8, u "LOG2_BYTE_BIT_SIZE"), (4, u "LOG2_ARRAY_INT_INDEX_SCALE"), (54, u "JLA"), (0, u "Ljdk/internal/access/JavaLangAccess;"), (11, u "LOG2_ARRAY_BOOLEAN_INDEX_SCALE"), (9, u "LOG2_ARRAY_BYTE_INDEX_SCALE"), (5, u "LOG2_ARRAY_CHAR_INDEX_SCALE"), (5, u "LOG2_ARRAY_SHORT_INDEX_SCALE"), (18, u "LOG2_ARRAY_FLOAT_INDEX_SCALE"), (24, u "LOG2_ARRAY_DOUBLE_INDEX_SCALE"), (89, u "T_BOOLEAN"), (2, u "T_CHAR"), (1, u "T_FLOAT"), (1, u "T_DOUBLE"), (1, u "T_BYTE"), (1, u "T_SHORT"), (1, u "T_INT"), (1, u "T_LONG"), (1, u "SOFT_MAX_ARRAY_LENGTH")] 83

def k12m0 : Method := { name := "<init>", desc := "()V", sig := { parameters := [], returnType := none }, accessFlags := 2, code := none }
/-- jdk/internal/util/ArraysSupport -/
def k12 : Class := { plain "jdk/internal/util/ArraysSupport" (some 0) with
  accessFlags := 33
  interfaces := #[]
  cf := some (fileOf pool12 21 #[] #[{ accessFlags := 2, nameIndex := 9, descriptorIndex := 19, attributes := #[] }] 33 16 #[] #[{ accessFlags := 24, nameIndex := 28, descriptorIndex := 29, attributes := #[] }, { accessFlags := 26, nameIndex := 38, descriptorIndex := 39, attributes := #[] }, { accessFlags := 25, nameIndex := 121, descriptorIndex := 25, attributes := #[] }, { accessFlags := 25, nameIndex := 131, descriptorIndex := 25, attributes := #[] }, { accessFlags := 25, nameIndex := 137, descriptorIndex := 25, attributes := #[] }, { accessFlags := 25, nameIndex := 143, descriptorIndex := 25, attributes := #[] }, { accessFlags := 25, nameIndex := 53, descriptorIndex := 25, attributes := #[] }, { accessFlags := 25, nameIndex := 24, descriptorIndex := 25, attributes := #[] }, { accessFlags := 25, nameIndex := 162, descriptorIndex := 25, attributes := #[] }, { accessFlags := 25, nameIndex := 187, descriptorIndex := 25, attributes := #[] }, { accessFlags := 26, nameIndex := 48, descriptorIndex := 25, attributes := #[] }, { accessFlags := 25, nameIndex := 277, descriptorIndex := 25, attributes := #[] }, { accessFlags := 25, nameIndex := 280, descriptorIndex := 25, attributes := #[] }, { accessFlags := 25, nameIndex := 282, descriptorIndex := 25, attributes := #[] }, { accessFlags := 25, nameIndex := 284, descriptorIndex := 25, attributes := #[] }, { accessFlags := 25, nameIndex := 286, descriptorIndex := 25, attributes := #[] }, { accessFlags := 25, nameIndex := 288, descriptorIndex := 25, attributes := #[] }, { accessFlags := 25, nameIndex := 290, descriptorIndex := 25, attributes := #[] }, { accessFlags := 25, nameIndex := 292, descriptorIndex := 25, attributes := #[] }, { accessFlags := 26, nameIndex := 108, descriptorIndex := 109, attributes := #[] }, { accessFlags := 25, nameIndex := 294, descriptorIndex := 25, attributes := #[] }])
  fields := #[{ name := "U", type := (.object "jdk/internal/misc/Unsafe"), accessFlags := 24, slot := 0, constantValue := 0 }, { name := "BIG_ENDIAN", type := .boolean, accessFlags := 26, slot := 1, constantValue := 0 }, { name := "LOG2_ARRAY_BOOLEAN_INDEX_SCALE", type := .int, accessFlags := 25, slot := 2, constantValue := 0 }, { name := "LOG2_ARRAY_BYTE_INDEX_SCALE", type := .int, accessFlags := 25, slot := 3, constantValue := 0 }, { name := "LOG2_ARRAY_CHAR_INDEX_SCALE", type := .int, accessFlags := 25, slot := 4, constantValue := 0 }, { name := "LOG2_ARRAY_SHORT_INDEX_SCALE", type := .int, accessFlags := 25, slot := 5, constantValue := 0 }, { name := "LOG2_ARRAY_INT_INDEX_SCALE", type := .int, accessFlags := 25, slot := 6, constantValue := 0 }, { name := "LOG2_ARRAY_LONG_INDEX_SCALE", type := .int, accessFlags := 25, slot := 7, constantValue := 0 }, { name := "LOG2_ARRAY_FLOAT_INDEX_SCALE", type := .int, accessFlags := 25, slot := 8, constantValue := 0 }, { name := "LOG2_ARRAY_DOUBLE_INDEX_SCALE", type := .int, accessFlags := 25, slot := 9, constantValue := 0 }, { name := "LOG2_BYTE_BIT_SIZE", type := .int, accessFlags := 26, slot := 10, constantValue := 0 }, { name := "T_BOOLEAN", type := .int, accessFlags := 25, slot := 11, constantValue := 0 }, { name := "T_CHAR", type := .int, accessFlags := 25, slot := 12, constantValue := 0 }, { name := "T_FLOAT", type := .int, accessFlags := 25, slot := 13, constantValue := 0 }, { name := "T_DOUBLE", type := .int, accessFlags := 25, slot := 14, constantValue := 0 }, { name := "T_BYTE", type := .int, accessFlags := 25, slot := 15, constantValue := 0 }, { name := "T_SHORT", type := .int, accessFlags := 25, slot := 16, constantValue := 0 }, { name := "T_INT", type := .int, accessFlags := 25, slot := 17, constantValue := 0 }, { name := "T_LONG", type := .int, accessFlags := 25, slot := 18, constantValue := 0 }, { name := "JLA", type := (.object "jdk/internal/access/JavaLangAccess"), accessFlags := 26, slot := 19, constantValue := 0 }, { name := "SOFT_MAX_ARRAY_LENGTH", type := .int, accessFlags := 25, slot := 20, constantValue := 0 }]
  methods := #[k12m0]
  instanceTypes := #[]
  staticTypes := #[(.object "jdk/internal/misc/Unsafe"), .boolean, .int, .int, .int, .int, .int, .int, .int, .int, .int, .int, .int, .int, .int, .int, .int, .int, .int, (.object "jdk/internal/access/JavaLangAccess"), .int]
  resolved := Array.replicate 378 none
  statics := none }

def pool13 : Array CpInfo := pool [(1, u "java/lang/Cloneable"), (0, .class_ 1), (0, u "java/lang/Object"), (0, .class_ 3)] 3

/-- java/lang/Cloneable -/
def k13 : Class := { plain "java/lang/Cloneable" (some 0) with
  accessFlags := 1537
  interfaces := #[]
  cf := some (fileOf pool13 2 #[] #[] 1537 4 #[] #[])
  fields := #[]
  methods := #[]
  instanceTypes := #[]
  staticTypes := #[]
  resolved := Array.replicate 8 none
  statics := none }

/-- the primitive byte -/
def k14 : Class := { plain "byte" none with kind := .primitive 'B', accessFlags := 0x411 }
/-- [B -/
def k15 : Class := { plain "[B" (some 0) with kind := .array 14 .byte, interfaces := #[13, 2], accessFlags := 1041 }

/-- the primitive char -/
def k16 : Class := { plain "char" none with kind := .primitive 'C', accessFlags := 0x411 }
/-- [C -/
def k17 : Class := { plain "[C" (some 0) with kind := .array 16 .char, interfaces := #[13, 2], accessFlags := 1041 }

/-- the primitive int -/
def k18 : Class := { plain "int" none with kind := .primitive 'I', accessFlags := 0x411 }
/-- [I -/
def k19 : Class := { plain "[I" (some 0) with kind := .array 18 .int, interfaces := #[13, 2], accessFlags := 1041 }

def heap : Heap := #[{ cls := 7, slots := #[.long 0, .int 1, .null, .int 0, .null, .int 0, .int 0], vm := .statics 7 },
  { cls := 11, slots := #[.null, .null, .null], vm := .statics 11 }]
def classes : Array Class := #[k0, k1, k2, k3, k4, k5, k6, k7, k8, k9, k10, k11, k12, k13, k14, k15, k16, k17, k18, k19]
def interned : List (Array UInt16 × Addr) := []
def slotsUsed : Nat := 10
def theMethod : MethodId := ⟨1, 3⟩
def args0 : Array Value := #[.int 5, .int 2, .int 2, .int 9]
def aboutOver (below : List Frame) : State where
  vm := { classes := classes, interned := interned.toArray }
  heap := heap
  slotsUsed := slotsUsed
  threads := #[{ frames := .invoking theMethod args0 :: below }]
def below0 : List Frame := [.native { method := ⟨0, 0⟩, args := #[] }]
def about1 : State := aboutOver below0
def p0 : Program := .bare "" "" ""
def e0 : Env := launch0.env 0 0 0
theorem w_frames : about1.frames = Frame.invoking theMethod args0 :: below0 := rfl
set_option maxRecDepth 65536 in
theorem w_args : argsFit about1.vm theMethod args0 = true := by decide +kernel
set_option maxRecDepth 65536 in
theorem w_heap : heapFits about1 = true := by decide +kernel
set_option maxRecDepth 65536 in
theorem w_runnable : about1.curStatus? = some .runnable := by decide +kernel
set_option maxRecDepth 65536 in
theorem w_alone : about1.alone = true := by decide +kernel
set_option maxRecDepth 65536 in
theorem w_named : about1.methodNamed? x = some theMethod := by decide +kernel
set_option maxRecDepth 65536 in
theorem w_hears : about1.hears theMethod below0 = true := by decide +kernel
set_option maxRecDepth 65536 in
theorem w_ripe : about1.ripe theMethod args0 below0 = true := by decide +kernel
theorem w_running : about1.status = .running := rfl
set_option maxRecDepth 65536 in
theorem w_room : about1.hasRoom e0.platform room_1 = true :=
  launch0.hasRoom_least _ room_1 (by decide +kernel) (by decide +kernel) (by decide +kernel) (by decide +kernel) (by decide +kernel) (by decide +kernel)
theorem allAtoms_all (ts : List Jvm.Cond) (a : Array Jvm.Value) (st : Jvm.State) : (allAtoms ts).before a st = ts.all (fun c => c.before a st) := by
  induction ts with
  | nil => rfl
  | cons c t ih =>
    show (Jvm.Cond.and c (allAtoms t)).before a st = _
    rw [Jvm.Cond.before_and, ih, List.all_cons]
def words1 : List Jvm.Cond := Jvm.Cond.code x code maxLocals ret :: tables_1
/-- a 'code' word, met by the world's own term for the bytes: nothing is compared byte by byte -/
theorem code_word {y : MethodName} {bytes : ByteArray} {mx : Nat} {rt : Option FieldType} {a : Array Value} {s : State} {m : MethodId} {meth : Method} {c : Code} (h1 : s.methodNamed? y = some m) (h2 : s.vm.method? m = some meth) (h3 : meth.code = some c) (h4 : c.code = bytes)
    (h5 : (c.maxLocals == mx && c.exceptionTable.isEmpty && decide (c.maxStack ≤ mostOperands) && decide (meth.sig.returnType = rt) && !meth.locks && decide (parseMethodDescriptor y.desc = some meth.sig)) = true) : (Jvm.Cond.code y bytes mx rt).before a s = true := by
  simp only [Bool.and_eq_true, beq_iff_eq, Bool.not_eq_true', decide_eq_true_eq] at h5
  obtain ⟨⟨⟨⟨⟨g1, g2⟩, g3⟩, g4⟩, g5⟩, g6⟩ := h5
  simp [Cond.before, Cond.holds, Cond.value, h1, h2, h3, h4, g1, g2, g3, g4, g5, g6]
def isCode : Jvm.Cond → Bool
  | .code _ _ _ _ => true
  | _ => false
theorem all_split {L : List Jvm.Cond} {P : Jvm.Cond → Bool} (h1 : L.all (fun c => isCode c || P c) = true) (h2 : ∀ c ∈ L.filter isCode, P c = true) : L.all P = true := by
  refine List.all_eq_true.mpr fun c hc => ?_
  have h := List.all_eq_true.mp h1 c hc
  rcases Bool.eq_false_or_eq_true (isCode c) with hi | hi
  · exact h2 c (List.mem_filter.mpr ⟨hc, hi⟩)
  · simpa [hi] using h
set_option maxRecDepth 65536 in
theorem w_c0 : (Jvm.Cond.code x code maxLocals ret).before args0 about1 = true := code_word (m := ⟨1, 3⟩) (meth := k1m3) (c := k1c3) (by decide +kernel) rfl rfl rfl (by decide +kernel)
set_option maxRecDepth 65536 in
theorem w_c1 : (Jvm.Cond.code ({ cls := "com/example/saasy/saasy/ledger/RenewalCancellingAPeriodPinLaw", name := "str", desc := "(IZ)Ljava/lang/String;" } : Jvm.MethodName) method_2_code (3 : Nat) (Option.some (Jvm.ClassFile.FieldType.object "java/lang/String"))).before args0 about1 = true := code_word (m := ⟨1, 1⟩) (meth := k1m1) (c := k1c1) (by decide +kernel) rfl rfl rfl (by decide +kernel)
set_option maxRecDepth 65536 in
theorem w_c2 : (Jvm.Cond.code ({ cls := "java/lang/String", name := "<init>", desc := "([C)V" } : Jvm.MethodName) jdk_42_method_3_code (2 : Nat) (Option.none : Option Jvm.ClassFile.FieldType)).before args0 about1 = true := code_word (m := ⟨7, 1⟩) (meth := k7m1) (c := k7c1) (by decide +kernel) rfl rfl rfl (by decide +kernel)
set_option maxRecDepth 65536 in
theorem w_c3 : (Jvm.Cond.code ({ cls := "java/lang/String", name := "<init>", desc := "([CIILjava/lang/Void;)V" } : Jvm.MethodName) jdk_42_method_149_code (6 : Nat) (Option.none : Option Jvm.ClassFile.FieldType)).before args0 about1 = true := code_word (m := ⟨7, 3⟩) (meth := k7m3) (c := k7c3) (by decide +kernel) rfl rfl rfl (by decide +kernel)
set_option maxRecDepth 65536 in
theorem w_c4 : (Jvm.Cond.code ({ cls := "java/lang/Object", name := "<init>", desc := "()V" } : Jvm.MethodName) object_method_1_code (1 : Nat) (Option.none : Option Jvm.ClassFile.FieldType)).before args0 about1 = true := code_word (m := ⟨0, 0⟩) (meth := k0m0) (c := k0c0) (by decide +kernel) rfl rfl rfl (by decide +kernel)
set_option maxRecDepth 65536 in
theorem w_c5 : (Jvm.Cond.code ({ cls := "java/lang/StringUTF16", name := "compress", desc := "([CII)[B" } : Jvm.MethodName) jdk_52_method_16_code (6 : Nat) (Option.some (Jvm.ClassFile.FieldType.array Jvm.ClassFile.FieldType.byte))).before args0 about1 = true := code_word (m := ⟨8, 2⟩) (meth := k8m2) (c := k8c2) (by decide +kernel) rfl rfl rfl (by decide +kernel)
set_option maxRecDepth 65536 in
theorem w_c6 : (Jvm.Cond.code ({ cls := "java/lang/StringUTF16", name := "compress", desc := "([CI[BII)I" } : Jvm.MethodName) jdk_52_method_21_code (7 : Nat) (Option.some Jvm.ClassFile.FieldType.int)).before args0 about1 = true := code_word (m := ⟨8, 3⟩) (meth := k8m3) (c := k8c3) (by decide +kernel) rfl rfl rfl (by decide +kernel)
set_option maxRecDepth 65536 in
theorem w_c7 : (Jvm.Cond.code ({ cls := "java/lang/StringUTF16", name := "coderFromArrayLen", desc := "([BI)B" } : Jvm.MethodName) jdk_52_method_15_code (2 : Nat) (Option.some Jvm.ClassFile.FieldType.byte)).before args0 about1 = true := code_word (m := ⟨8, 1⟩) (meth := k8m1) (c := k8c1) (by decide +kernel) rfl rfl rfl (by decide +kernel)
set_option maxRecDepth 65536 in
theorem w_c8 : (Jvm.Cond.code ({ cls := "com/example/saasy/saasy/ledger/Renewal", name := "<init>", desc := "(Ljava/lang/String;Ljava/lang/String;Ljava/lang/String;Z)V" } : Jvm.MethodName) prog_15_method_1_code (5 : Nat) (Option.none : Option Jvm.ClassFile.FieldType)).before args0 about1 = true := code_word (m := ⟨9, 0⟩) (meth := k9m0) (c := k9c0) (by decide +kernel) rfl rfl rfl (by decide +kernel)
set_option maxRecDepth 65536 in
theorem w_c9 : (Jvm.Cond.code ({ cls := "com/example/saasy/saasy/ledger/Renewal", name := "<init>", desc := "(Ljava/lang/String;Ljava/lang/String;Ljava/lang/String;ZZLjava/time/Instant;)V" } : Jvm.MethodName) prog_15_method_2_code (7 : Nat) (Option.none : Option Jvm.ClassFile.FieldType)).before args0 about1 = true := code_word (m := ⟨9, 1⟩) (meth := k9m1) (c := k9c1) (by decide +kernel) rfl rfl rfl (by decide +kernel)
set_option maxRecDepth 65536 in
theorem w_c10 : (Jvm.Cond.code ({ cls := "com/example/saasy/saasy/ledger/Renewal", name := "cancellingAPeriod", desc := "()Lcom/example/saasy/saasy/ledger/Renewal;" } : Jvm.MethodName) prog_15_method_3_code (1 : Nat) (Option.some (Jvm.ClassFile.FieldType.object "com/example/saasy/saasy/ledger/Renewal"))).before args0 about1 = true := code_word (m := ⟨9, 2⟩) (meth := k9m2) (c := k9c2) (by decide +kernel) rfl rfl rfl (by decide +kernel)
set_option maxRecDepth 65536 in
theorem w_c11 : (Jvm.Cond.code ({ cls := "com/example/saasy/saasy/ledger/Renewal", name := "orderId", desc := "()Ljava/lang/String;" } : Jvm.MethodName) prog_15_method_5_code (1 : Nat) (Option.some (Jvm.ClassFile.FieldType.object "java/lang/String"))).before args0 about1 = true := code_word (m := ⟨9, 3⟩) (meth := k9m3) (c := k9c3) (by decide +kernel) rfl rfl rfl (by decide +kernel)
set_option maxRecDepth 65536 in
theorem w_c12 : (Jvm.Cond.code ({ cls := "com/example/saasy/saasy/ledger/RenewalCancellingAPeriodPinLaw", name := "same", desc := "(Ljava/lang/String;Ljava/lang/String;)Z" } : Jvm.MethodName) method_3_code (2 : Nat) (Option.some Jvm.ClassFile.FieldType.boolean)).before args0 about1 = true := code_word (m := ⟨1, 2⟩) (meth := k1m2) (c := k1c2) (by decide +kernel) rfl rfl rfl (by decide +kernel)
set_option maxRecDepth 65536 in
theorem w_c13 : (Jvm.Cond.code ({ cls := "com/example/saasy/saasy/ledger/Renewal", name := "expireTime", desc := "()Ljava/lang/String;" } : Jvm.MethodName) prog_15_method_6_code (1 : Nat) (Option.some (Jvm.ClassFile.FieldType.object "java/lang/String"))).before args0 about1 = true := code_word (m := ⟨9, 4⟩) (meth := k9m4) (c := k9c4) (by decide +kernel) rfl rfl rfl (by decide +kernel)
set_option maxRecDepth 65536 in
theorem w_c14 : (Jvm.Cond.code ({ cls := "java/lang/String", name := "equals", desc := "(Ljava/lang/Object;)Z" } : Jvm.MethodName) jdk_42_method_66_code (3 : Nat) (Option.some Jvm.ClassFile.FieldType.boolean)).before args0 about1 = true := code_word (m := ⟨7, 2⟩) (meth := k7m2) (c := k7c2) (by decide +kernel) rfl rfl rfl (by decide +kernel)
set_option maxRecDepth 65536 in
theorem w_c15 : (Jvm.Cond.code ({ cls := "com/example/saasy/saasy/ledger/Renewal", name := "productId", desc := "()Ljava/lang/String;" } : Jvm.MethodName) prog_15_method_7_code (1 : Nat) (Option.some (Jvm.ClassFile.FieldType.object "java/lang/String"))).before args0 about1 = true := code_word (m := ⟨9, 5⟩) (meth := k9m5) (c := k9c5) (by decide +kernel) rfl rfl rfl (by decide +kernel)
set_option maxRecDepth 65536 in
theorem w_c16 : (Jvm.Cond.code ({ cls := "com/example/saasy/saasy/ledger/Renewal", name := "endsTrial", desc := "()Z" } : Jvm.MethodName) prog_15_method_8_code (1 : Nat) (Option.some Jvm.ClassFile.FieldType.boolean)).before args0 about1 = true := code_word (m := ⟨9, 6⟩) (meth := k9m6) (c := k9c6) (by decide +kernel) rfl rfl rfl (by decide +kernel)
set_option maxRecDepth 65536 in
theorem w_c17 : (Jvm.Cond.code ({ cls := "com/example/saasy/saasy/ledger/Renewal", name := "cancelsAPeriod", desc := "()Z" } : Jvm.MethodName) prog_15_method_9_code (1 : Nat) (Option.some Jvm.ClassFile.FieldType.boolean)).before args0 about1 = true := code_word (m := ⟨9, 7⟩) (meth := k9m7) (c := k9c7) (by decide +kernel) rfl rfl rfl (by decide +kernel)
set_option maxRecDepth 65536 in
theorem w_c18 : (Jvm.Cond.code ({ cls := "com/example/saasy/saasy/ledger/Renewal", name := "unfreezes", desc := "()Z" } : Jvm.MethodName) prog_15_method_10_code (1 : Nat) (Option.some Jvm.ClassFile.FieldType.boolean)).before args0 about1 = true := code_word (m := ⟨9, 8⟩) (meth := k9m8) (c := k9c8) (by decide +kernel) rfl rfl rfl (by decide +kernel)
def codes1 : List Jvm.Cond := [Jvm.Cond.code x code maxLocals ret, Jvm.Cond.code ({ cls := "com/example/saasy/saasy/ledger/RenewalCancellingAPeriodPinLaw", name := "str", desc := "(IZ)Ljava/lang/String;" } : Jvm.MethodName) method_2_code (3 : Nat) (Option.some (Jvm.ClassFile.FieldType.object "java/lang/String")), Jvm.Cond.code ({ cls := "java/lang/String", name := "<init>", desc := "([C)V" } : Jvm.MethodName) jdk_42_method_3_code (2 : Nat) (Option.none : Option Jvm.ClassFile.FieldType), Jvm.Cond.code ({ cls := "java/lang/String", name := "<init>", desc := "([CIILjava/lang/Void;)V" } : Jvm.MethodName) jdk_42_method_149_code (6 : Nat) (Option.none : Option Jvm.ClassFile.FieldType), Jvm.Cond.code ({ cls := "java/lang/Object", name := "<init>", desc := "()V" } : Jvm.MethodName) object_method_1_code (1 : Nat) (Option.none : Option Jvm.ClassFile.FieldType), Jvm.Cond.code ({ cls := "java/lang/StringUTF16", name := "compress", desc := "([CII)[B" } : Jvm.MethodName) jdk_52_method_16_code (6 : Nat) (Option.some (Jvm.ClassFile.FieldType.array Jvm.ClassFile.FieldType.byte)), Jvm.Cond.code ({ cls := "java/lang/StringUTF16", name := "compress", desc := "([CI[BII)I" } : Jvm.MethodName) jdk_52_method_21_code (7 : Nat) (Option.some Jvm.ClassFile.FieldType.int), Jvm.Cond.code ({ cls := "java/lang/StringUTF16", name := "coderFromArrayLen", desc := "([BI)B" } : Jvm.MethodName) jdk_52_method_15_code (2 : Nat) (Option.some Jvm.ClassFile.FieldType.byte), Jvm.Cond.code ({ cls := "com/example/saasy/saasy/ledger/Renewal", name := "<init>", desc := "(Ljava/lang/String;Ljava/lang/String;Ljava/lang/String;Z)V" } : Jvm.MethodName) prog_15_method_1_code (5 : Nat) (Option.none : Option Jvm.ClassFile.FieldType), Jvm.Cond.code ({ cls := "com/example/saasy/saasy/ledger/Renewal", name := "<init>", desc := "(Ljava/lang/String;Ljava/lang/String;Ljava/lang/String;ZZLjava/time/Instant;)V" } : Jvm.MethodName) prog_15_method_2_code (7 : Nat) (Option.none : Option Jvm.ClassFile.FieldType), Jvm.Cond.code ({ cls := "com/example/saasy/saasy/ledger/Renewal", name := "cancellingAPeriod", desc := "()Lcom/example/saasy/saasy/ledger/Renewal;" } : Jvm.MethodName) prog_15_method_3_code (1 : Nat) (Option.some (Jvm.ClassFile.FieldType.object "com/example/saasy/saasy/ledger/Renewal")), Jvm.Cond.code ({ cls := "com/example/saasy/saasy/ledger/Renewal", name := "orderId", desc := "()Ljava/lang/String;" } : Jvm.MethodName) prog_15_method_5_code (1 : Nat) (Option.some (Jvm.ClassFile.FieldType.object "java/lang/String")), Jvm.Cond.code ({ cls := "com/example/saasy/saasy/ledger/RenewalCancellingAPeriodPinLaw", name := "same", desc := "(Ljava/lang/String;Ljava/lang/String;)Z" } : Jvm.MethodName) method_3_code (2 : Nat) (Option.some Jvm.ClassFile.FieldType.boolean), Jvm.Cond.code ({ cls := "com/example/saasy/saasy/ledger/Renewal", name := "expireTime", desc := "()Ljava/lang/String;" } : Jvm.MethodName) prog_15_method_6_code (1 : Nat) (Option.some (Jvm.ClassFile.FieldType.object "java/lang/String")), Jvm.Cond.code ({ cls := "java/lang/String", name := "equals", desc := "(Ljava/lang/Object;)Z" } : Jvm.MethodName) jdk_42_method_66_code (3 : Nat) (Option.some Jvm.ClassFile.FieldType.boolean), Jvm.Cond.code ({ cls := "com/example/saasy/saasy/ledger/Renewal", name := "productId", desc := "()Ljava/lang/String;" } : Jvm.MethodName) prog_15_method_7_code (1 : Nat) (Option.some (Jvm.ClassFile.FieldType.object "java/lang/String")), Jvm.Cond.code ({ cls := "com/example/saasy/saasy/ledger/Renewal", name := "endsTrial", desc := "()Z" } : Jvm.MethodName) prog_15_method_8_code (1 : Nat) (Option.some Jvm.ClassFile.FieldType.boolean), Jvm.Cond.code ({ cls := "com/example/saasy/saasy/ledger/Renewal", name := "cancelsAPeriod", desc := "()Z" } : Jvm.MethodName) prog_15_method_9_code (1 : Nat) (Option.some Jvm.ClassFile.FieldType.boolean), Jvm.Cond.code ({ cls := "com/example/saasy/saasy/ledger/Renewal", name := "unfreezes", desc := "()Z" } : Jvm.MethodName) prog_15_method_10_code (1 : Nat) (Option.some Jvm.ClassFile.FieldType.boolean)]
set_option maxRecDepth 65536 in
theorem codes_eq : words1.filter isCode = codes1 := rfl
theorem w_codes : ∀ c ∈ words1.filter isCode, c.before args0 about1 = true := by
  rw [codes_eq]
  intro c hc
  simp only [codes1, List.mem_cons, List.not_mem_nil, or_false] at hc
  rcases hc with rfl | rfl | rfl | rfl | rfl | rfl | rfl | rfl | rfl | rfl | rfl | rfl | rfl | rfl | rfl | rfl | rfl | rfl | rfl
  · exact w_c0
  · exact w_c1
  · exact w_c2
  · exact w_c3
  · exact w_c4
  · exact w_c5
  · exact w_c6
  · exact w_c7
  · exact w_c8
  · exact w_c9
  · exact w_c10
  · exact w_c11
  · exact w_c12
  · exact w_c13
  · exact w_c14
  · exact w_c15
  · exact w_c16
  · exact w_c17
  · exact w_c18
set_option maxRecDepth 65536 in
theorem w_t1 : (words1.take 24).all (fun c => isCode c || c.before args0 about1) = true := by decide +kernel
set_option maxRecDepth 65536 in
theorem w_t2 : ((words1.drop 24).take 24).all (fun c => isCode c || c.before args0 about1) = true := by decide +kernel
set_option maxRecDepth 65536 in
theorem w_t3 : (((words1.drop 24).drop 24).take 24).all (fun c => isCode c || c.before args0 about1) = true := by decide +kernel
set_option maxRecDepth 65536 in
theorem w_t4 : ((((words1.drop 24).drop 24).drop 24).take 24).all (fun c => isCode c || c.before args0 about1) = true := by decide +kernel
set_option maxRecDepth 65536 in
theorem w_t5 : ((((words1.drop 24).drop 24).drop 24).drop 24).all (fun c => isCode c || c.before args0 about1) = true := by decide +kernel
theorem w_tables : (allAtoms (Jvm.Cond.code x code maxLocals ret :: tables_1)).before args0 about1 = true := by
  rw [allAtoms_all]
  show words1.all (fun c => c.before args0 about1) = true
  refine all_split ?_ w_codes
  rw [← List.take_append_drop 24 words1, List.all_append, w_t1, ← List.take_append_drop 24 (words1.drop 24), List.all_append, w_t2, ← List.take_append_drop 24 ((words1.drop 24).drop 24), List.all_append, w_t3, ← List.take_append_drop 24 (((words1.drop 24).drop 24).drop 24), List.all_append, w_t4, w_t5]
  rfl
set_option maxRecDepth 65536 in
theorem w_rest : rest_1_c.before args0 about1 = true := by decide +kernel
set_option maxRecDepth 65536 in
theorem w_case : (Jvm.Cond.and given_1 narrow_1).before args0 about1 = true := by decide +kernel
theorem w_applies : (headSpec (Jvm.Cond.code x code maxLocals ret :: tables_1) room_1).applies x e0.platform about1 = true :=
  (Spec.applies_iff w_frames).mpr ⟨w_running, w_runnable, w_alone, w_named, w_hears, w_ripe, w_room, w_tables⟩
theorem atStart : AtStart classFile x code maxLocals ret World_1 tables_1 room_1 Calls_1 rest_1 Pre_1 launch0 p0 e0 about1 theMethod args0 below0 :=
  ⟨lists_1, trivial, launch0.admits_env _ _ _, launch0.least_env, fairChoices_fair.cas, fairChoices_fair.clock, w_frames, w_args, w_heap, w_applies, trivial, w_rest, w_case⟩
end start1
theorem witness_1 : WitnessClaimed_1 := ⟨start1.p0, start1.e0, start1.about1, start1.theMethod, start1.args0, start1.below0, start1.atStart⟩
end Jvm.Pilot.@@N@@
