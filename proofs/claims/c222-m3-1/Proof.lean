import JvmDerived
import JvmDerived.Pilot.@@N@@Statement
import JvmDerived.Pilot.@@N@@Code
set_option linter.unusedVariables false
set_option linter.unusedSimpArgs false
/- laws to paste: Road.backV (cut by pick.py; bodies as the Statement names them) -/
namespace Jvm.Pilot.@@N@@
namespace StrChars
open Jvm Sem ClassFile Op Lib Jvm.Stand Jvm.Free.XT Jvm.Free.ALB Jvm.Free.JM Jvm.Free
open Jvm.Lib.Cold (StaticIs)
/-- a char array whose places are chars -/
def Ch (a : Addr) (A : Cell) (U : State) : Prop := Arr .char a A U ∧ Typed .char A
theorem Ch.mv {a : Addr} {A : Cell} {U U' : State} (h : Ch a A U) (hal : U.vm.Alike U'.vm) (hh : U'.heap = U.heap) : Ch a A U' := ⟨h.1.mv hal hh, h.2⟩
theorem Ch.keep {a : Addr} {A : Cell} {U U' : State} (h : Ch a A U) (hal : U.vm.Alike U'.vm) (hk : U'.heap[a]? = some A) : Ch a A U' := ⟨h.1.keep hal hk, h.2⟩
/-- what place i of a char[]'s cell holds -/
def cv (A : Cell) (i : Nat) : Int32 := match A.slots[i]? with | some (.int x) => x | _ => 0
theorem Ch.get {a : Addr} {A : Cell} {U : State} (h : Ch a A U) {i : Nat} (hi : i < A.slots.size) : A.slots[i]? = some (.int (cv A i)) := by
  have e := Array.getElem?_eq_getElem hi
  have f := h.2 i _ e
  unfold cv; rw [e]
  generalize A.slots[i] = v at f
  cases v <;> simp [fits] at f ⊢
/-- the byte that i2b leaves of a char -/
def lo8 (x : Int32) : Int32 := x.toInt8.toInt32
theorem fits_lo8 (y : Int32) : fits .byte (.int (lo8 y)) = true := by
  have h1 := y.toInt8.le_toInt
  have h2 := y.toInt8.toInt_lt
  simp only [lo8, fits, Bool.and_eq_true, decide_eq_true_eq, Int32.le_iff_toInt_le, Int8.toInt_toInt32, show (-128 : Int32).toInt = -128 from by decide, show (127 : Int32).toInt = 127 from by decide]
  omega
/-- A' is A but that each place j of lo .. hi - 1 holds f j -/
def Laid (A A' : Cell) (lo hi : Nat) (f : Nat → Value) : Prop := A'.cls = A.cls ∧ A'.vm = A.vm ∧ A'.slots.size = A.slots.size ∧ ∀ i, A'.slots[i]? = if lo ≤ i ∧ i < hi then some (f i) else A.slots[i]?
theorem Laid.zero (A : Cell) (lo : Nat) (f : Nat → Value) : Laid A A lo (lo + 0) f := ⟨rfl, rfl, rfl, fun i => by rw [if_neg (by omega)]⟩
theorem Laid.step {A Ak : Cell} {lo k : Nat} {f : Nat → Value} {v : Value} (h : Laid A Ak lo k f) (hlo : lo ≤ k) (hk : k < Ak.slots.size) (hv : v = f k) : Laid A (Ak.setSlot k v) lo (k + 1) f := by
  refine ⟨h.1, h.2.1, by simpa [Cell.setSlot] using h.2.2.1, fun i => ?_⟩
  by_cases e : k = i
  · subst e; rw [Cell.slots_setSlot_self v hk, if_pos (by omega), hv]
  · rw [Cell.slots_setSlot_ne v e, h.2.2.2 i]
    by_cases q : lo ≤ i ∧ i < k
    · rw [if_pos q, if_pos (by omega)]
    · rw [if_neg q, if_neg (by omega)]
def U16 : String := "java/lang/StringUTF16"
namespace Cmp5
def yN : MethodName := ⟨"java/lang/StringUTF16", "compress", "([CI[BII)I"⟩
abbrev yB : ByteArray := jdk_52_method_21_code
theorem d0 : decode yB 0 = .ok (.iconst 0, 1) := by decide +kernel
theorem d1 : decode yB 1 = .ok (.istore 5, 2) := by decide +kernel
theorem d3 : decode yB 3 = .ok (.iload 5, 2) := by decide +kernel
theorem d5 : decode yB 5 = .ok (.iload 4, 2) := by decide +kernel
theorem d7 : decode yB 7 = .ok (.if_icmp (.ge) 37, 3) := by decide +kernel
theorem d10 : decode yB 10 = .ok (.aload_n 0, 1) := by decide +kernel
theorem d11 : decode yB 11 = .ok (.iload_n 1, 1) := by decide +kernel
theorem d12 : decode yB 12 = .ok (.caload, 1) := by decide +kernel
theorem d13 : decode yB 13 = .ok (.istore 6, 2) := by decide +kernel
theorem d15 : decode yB 15 = .ok (.iload 6, 2) := by decide +kernel
theorem d17 : decode yB 17 = .ok (.sipush 255, 3) := by decide +kernel
theorem d20 : decode yB 20 = .ok (.if_icmp (.le) 6, 3) := by decide +kernel
theorem d26 : decode yB 26 = .ok (.aload_n 2, 1) := by decide +kernel
theorem d27 : decode yB 27 = .ok (.iload_n 3, 1) := by decide +kernel
theorem d28 : decode yB 28 = .ok (.iload 6, 2) := by decide +kernel
theorem d30 : decode yB 30 = .ok (.i2b, 1) := by decide +kernel
theorem d31 : decode yB 31 = .ok (.bastore, 1) := by decide +kernel
theorem d32 : decode yB 32 = .ok (.iinc 1 1, 3) := by decide +kernel
theorem d35 : decode yB 35 = .ok (.iinc 3 1, 3) := by decide +kernel
theorem d38 : decode yB 38 = .ok (.iinc 5 1, 3) := by decide +kernel
theorem d41 : decode yB 41 = .ok (.goto (-38), 3) := by decide +kernel
theorem d44 : decode yB 44 = .ok (.iload 4, 2) := by decide +kernel
theorem d46 : decode yB 46 = .ok (.ireturn, 1) := by decide +kernel
def site : List Cond := []
def tab : Cond := tabOf yN yB 7 (some .int) site
def P (b : Addr) (A : Cell) (d : Addr) (B : Cell) (o q len : Nat) (args : Array Value) (s : State) : Prop := args = #[.ref b, .int (Int32.ofNat o), .ref d, .int (Int32.ofNat q), .int (Int32.ofNat len)] ∧ Ch b A s ∧ Arr .byte d B s ∧ b ≠ d ∧ o + len ≤ A.slots.size ∧ q + len ≤ B.slots.size ∧ ∀ i, i < len → ¬ 255 < cv A (o + i)
def E (b : Addr) (A : Cell) (d : Addr) (B : Cell) (o q len : Nat) (r : Option Value) (s u : State) : Prop := r = some (.int (Int32.ofNat len)) ∧ ∃ B', Put d B' s u ∧ Laid B B' q (q + len) (fun j => Value.int (lo8 (cv A (o + (j - q)))))
/-- no char of the range above 255: len; the places written hold each char's low byte -/
theorem law (l : Launch) (b : Addr) (A : Cell) (d : Addr) (B : Cell) (o q len : Nat) : Law l yN 5 5 0 0 yB 7 (some .int) site (P b A d B o q len) (E b A d B o q len) (copyLocs d q len) 0 0 := by
  refine Law.of_walk (plainFor_of_name (by decide +kernel)) (by decide +kernel) (by decide +kernel) (by decide) (fun _ _ h => by rw [h.1]; rfl) (fun _ U U' hal hh h => ⟨h.1, h.2.1.mv hal hh, h.2.2.1.mv hal hh, h.2.2.2⟩) (fun r U U' V V' h1 hal h2 h => ⟨h.1, h.2.elim fun B' q => ⟨B', q.1.mv h1 h2, q.2⟩⟩) ?_
  intro p e s m args below meth c s₁ X0 hexec hbytes hml hret hlk hnm hown hh0 W hP
  obtain ⟨rfl, hA, hB, hne, l1, l2, hp⟩ := hP
  have c1 : Steps p.tables e below (s₁.setTop (entryFrame m #[.ref b, .int (Int32.ofNat o), .ref d, .int (Int32.ofNat q), .int (Int32.ofNat len)] 7)) (s₁.setTop (mkF m 0 #[.val (.ref b), .val (.int (Int32.ofNat o)), .val (.ref d), .val (.int (Int32.ofNat q)), .val (.int (Int32.ofNat len)), .unset, .unset] [])) := entry rfl
  have hA0 := hA.1.mv X0.warmed.alike hh0
  have hB0 := hB.mv X0.warmed.alike hh0
  have a31 := hA.1.2.2.2
  have c2 : Steps p.tables e below (s₁.setTop (entryFrame m #[.ref b, .int (Int32.ofNat o), .ref d, .int (Int32.ofNat q), .int (Int32.ofNat len)] 7)) (s₁.setTop (mkF m 3 #[.val (.ref b), .val (.int (Int32.ofNat o)), .val (.ref d), .val (.int (Int32.ofNat q)), .val (.int (Int32.ofNat len)), .val (.int 0), .unset] [])) := c1.trans (by
    refine iconstV X0.here hexec rfl 0 (hb hbytes d0) (by decide) ?_
    refine XS.istore X0.here hexec rfl (hb hbytes d1) rfl rfl ?_
    exact Steps.refl _)
  have loop : ∀ (r i : Nat), i + r = len → ∀ (z : Slot), (z = .unset ∨ ∃ w, z = .val w ∧ w.category = 1) → ∀ (Tl : State) (Bk : Cell), Stand p l e { frames := 0, locals := 0, cells := 0, slots := 0 } s m #[.ref b, .int (Int32.ofNat o), .ref d, .int (Int32.ofNat q), .int (Int32.ofNat len)] below meth c Tl ([] ++ copyLocs d q i) 0 0 → Put d Bk s₁ Tl → Laid B Bk q (q + i) (fun j => Value.int (lo8 (cv A (o + (j - q))))) →
      Steps p.tables e below (s₁.setTop (entryFrame m #[.ref b, .int (Int32.ofNat o), .ref d, .int (Int32.ofNat q), .int (Int32.ofNat len)] 7)) (Tl.setTop (mkF m 3 #[.val (.ref b), .val (.int (Int32.ofNat (o + i))), .val (.ref d), .val (.int (Int32.ofNat (q + i))), .val (.int (Int32.ofNat len)), .val (.int (Int32.ofNat i)), z] [])) → ∃ (T' : State) (B' : Cell) (z' : Slot), Stand p l e { frames := 0, locals := 0, cells := 0, slots := 0 } s m #[.ref b, .int (Int32.ofNat o), .ref d, .int (Int32.ofNat q), .int (Int32.ofNat len)] below meth c T' ([] ++ copyLocs d q len) 0 0 ∧ Put d B' s₁ T' ∧ Laid B B' q (q + len) (fun j => Value.int (lo8 (cv A (o + (j - q))))) ∧
      Steps p.tables e below (s₁.setTop (entryFrame m #[.ref b, .int (Int32.ofNat o), .ref d, .int (Int32.ofNat q), .int (Int32.ofNat len)] 7)) (T'.setTop (mkF m 3 #[.val (.ref b), .val (.int (Int32.ofNat (o + len))), .val (.ref d), .val (.int (Int32.ofNat (q + len))), .val (.int (Int32.ofNat len)), .val (.int (Int32.ofNat len)), z'] [])) := by
    intro r
    induction r with
    | zero =>
      intro i hi z hz Tl Bk Xl pl fl cl
      have hil : i = len := by omega
      rw [hil] at Xl fl cl
      exact ⟨Tl, Bk, z, Xl, pl, fl, cl⟩
    | succ r ih =>
      intro i hi z hz Tl Bk Xl pl fl cl
      have all := X0.warmed.alike.symm.trans Xl.warmed.alike
      have hAl := hA0.keep all (pl.other hne hA0.1)
      have hBk := hB0.like all pl.1 fl.1 fl.2.1 fl.2.2.1
      have hlt : q + i < Bk.slots.size := by rw [fl.2.2.1]; omega
      have c3 : Steps p.tables e below (s₁.setTop (entryFrame m #[.ref b, .int (Int32.ofNat o), .ref d, .int (Int32.ofNat q), .int (Int32.ofNat len)] 7)) (Tl.setTop (mkF m 12 #[.val (.ref b), .val (.int (Int32.ofNat (o + i))), .val (.ref d), .val (.int (Int32.ofNat (q + i))), .val (.int (Int32.ofNat len)), .val (.int (Int32.ofNat i)), z] [.int (Int32.ofNat (o + i)), .ref b])) := cl.trans (by
        refine XS.iload Xl.here hexec rfl (hb hbytes d3) rfl ?_
        refine XS.iload Xl.here hexec rfl (hb hbytes d5) rfl ?_
        refine XS.icmpNo Xl.here hexec rfl (hb hbytes d7) rfl (ii_ge_f (lt32 (by omega) (by omega))) ?_
        refine XS.aloadN Xl.here hexec rfl (hb hbytes d10) rfl rfl ?_
        refine XS.iloadN Xl.here hexec rfl (hb hbytes d11) rfl ?_
        exact Steps.refl _)
      have c4 : Steps p.tables e below (s₁.setTop (entryFrame m #[.ref b, .int (Int32.ofNat o), .ref d, .int (Int32.ofNat q), .int (Int32.ofNat len)] 7)) (Tl.setTop (mkF m 13 #[.val (.ref b), .val (.int (Int32.ofNat (o + i))), .val (.ref d), .val (.int (Int32.ofNat (q + i))), .val (.int (Int32.ofNat len)), .val (.int (Int32.ofNat i)), z] [.int (cv A (o + i))])) := c3.trans (by
        refine Xl.aget hexec hAl rfl (hA.get (i := o + i) (by omega)) rfl rfl (hb hbytes d12) ?_
        exact Steps.refl _)
      have c5 : Steps p.tables e below (s₁.setTop (entryFrame m #[.ref b, .int (Int32.ofNat o), .ref d, .int (Int32.ofNat q), .int (Int32.ofNat len)] 7)) (Tl.setTop (mkF m 15 #[.val (.ref b), .val (.int (Int32.ofNat (o + i))), .val (.ref d), .val (.int (Int32.ofNat (q + i))), .val (.int (Int32.ofNat len)), .val (.int (Int32.ofNat i)), .val (.int (cv A (o + i)))] [])) := c4.trans (by
        refine XS.istoreS Xl.here hexec rfl (hb hbytes d13) rfl rfl hz ?_
        exact Steps.refl _)
      have c6 : Steps p.tables e below (s₁.setTop (entryFrame m #[.ref b, .int (Int32.ofNat o), .ref d, .int (Int32.ofNat q), .int (Int32.ofNat len)] 7)) (Tl.setTop (mkF m 31 #[.val (.ref b), .val (.int (Int32.ofNat (o + i))), .val (.ref d), .val (.int (Int32.ofNat (q + i))), .val (.int (Int32.ofNat len)), .val (.int (Int32.ofNat i)), .val (.int (cv A (o + i)))] [.int (lo8 (cv A (o + i))), .int (Int32.ofNat (q + i)), .ref d])) := c5.trans (by
        refine XS.iload Xl.here hexec rfl (hb hbytes d15) rfl ?_
        refine sipushV Xl.here hexec rfl 255 (hb hbytes d17) (by decide) ?_
        refine XS.icmpYes Xl.here hexec rfl (pc0 := 20) rfl (hb hbytes d20) rfl (ii_le_t (hp i (by omega))) (by decide) rfl ?_
        refine XS.aloadN Xl.here hexec rfl (hb hbytes d26) rfl rfl ?_
        refine XS.iloadN Xl.here hexec rfl (hb hbytes d27) rfl ?_
        refine XS.iload Xl.here hexec rfl (hb hbytes d28) rfl ?_
        refine i2b Xl.here hexec rfl (hb hbytes d30) rfl ?_
        exact Steps.refl _)
      obtain ⟨T7, X7, p7, st7⟩ := Xl.aput hexec hBk rfl hlt rfl (fits_lo8 (cv A (o + i))) (g := (mkF m 31 #[.val (.ref b), .val (.int (Int32.ofNat (o + i))), .val (.ref d), .val (.int (Int32.ofNat (q + i))), .val (.int (Int32.ofNat len)), .val (.int (Int32.ofNat i)), .val (.int (cv A (o + i)))] [.int (lo8 (cv A (o + i))), .int (Int32.ofNat (q + i)), .ref d])) rfl (rest := []) rfl (hb hbytes d31)
      have c8 : Steps p.tables e below (s₁.setTop (entryFrame m #[.ref b, .int (Int32.ofNat o), .ref d, .int (Int32.ofNat q), .int (Int32.ofNat len)] 7)) (T7.setTop (mkF m 32 #[.val (.ref b), .val (.int (Int32.ofNat (o + i))), .val (.ref d), .val (.int (Int32.ofNat (q + i))), .val (.int (Int32.ofNat len)), .val (.int (Int32.ofNat i)), .val (.int (cv A (o + i)))] [])) := c6.trans (st7 _ (Steps.refl _))
      have c9 : Steps p.tables e below (s₁.setTop (entryFrame m #[.ref b, .int (Int32.ofNat o), .ref d, .int (Int32.ofNat q), .int (Int32.ofNat len)] 7)) (T7.setTop (mkF m 3 #[.val (.ref b), .val (.int (Int32.ofNat (o + i) + 1)), .val (.ref d), .val (.int (Int32.ofNat (q + i) + 1)), .val (.int (Int32.ofNat len)), .val (.int (Int32.ofNat i + 1)), .val (.int (cv A (o + i)))] [])) := c8.trans (by
        refine iincV X7.here hexec rfl 1 (hb hbytes d32) (by decide) rfl rfl ?_
        refine iincV X7.here hexec rfl 1 (hb hbytes d35) (by decide) rfl rfl ?_
        refine iincV X7.here hexec rfl 1 (hb hbytes d38) (by decide) rfl rfl ?_
        refine XS.goto X7.here hexec rfl (pc0 := 41) rfl (hb hbytes d41) (by decide) rfl ?_
        exact Steps.refl _)
      have c10 : Steps p.tables e below (s₁.setTop (entryFrame m #[.ref b, .int (Int32.ofNat o), .ref d, .int (Int32.ofNat q), .int (Int32.ofNat len)] 7)) (T7.setTop (mkF m 3 #[.val (.ref b), .val (.int (Int32.ofNat (o + (i + 1)))), .val (.ref d), .val (.int (Int32.ofNat (q + (i + 1)))), .val (.int (Int32.ofNat len)), .val (.int (Int32.ofNat (i + 1))), .val (.int (cv A (o + i)))] [])) := by
        have := c9
        rw [succ32, succ32, succ32] at this
        exact this
      exact ih (i + 1) (by omega) _ (Or.inr ⟨_, rfl, rfl⟩) T7 _ (by rw [copyLocs_step, ← List.append_assoc]; exact X7) (pl.trans p7) (fl.step (by omega) hlt (by simp)) c10
  obtain ⟨T9, B9, z9, X9, p9, f9, g9⟩ := loop len 0 (by omega) .unset (Or.inl rfl) s₁ B (by simpa [copyLocs] using X0) ⟨hB0.1, fun _ _ => rfl, rfl⟩ (Laid.zero _ _ _) c2
  have c11 : Steps p.tables e below (s₁.setTop (entryFrame m #[.ref b, .int (Int32.ofNat o), .ref d, .int (Int32.ofNat q), .int (Int32.ofNat len)] 7)) (T9.setTop (mkF m 46 #[.val (.ref b), .val (.int (Int32.ofNat (o + len))), .val (.ref d), .val (.int (Int32.ofNat (q + len))), .val (.int (Int32.ofNat len)), .val (.int (Int32.ofNat len)), z9] [.int (Int32.ofNat len)])) := g9.trans (by
    refine XS.iload X9.here hexec rfl (hb hbytes d3) rfl ?_
    refine XS.iload X9.here hexec rfl (hb hbytes d5) rfl ?_
    refine XS.icmpYes X9.here hexec rfl (pc0 := 7) rfl (hb hbytes d7) rfl (ii_ge_t (nlt32 (by omega) (Nat.le_refl _))) (by decide) rfl ?_
    refine XS.iload X9.here hexec rfl (hb hbytes d44) rfl ?_
    exact Steps.refl _)
  exact ⟨T9, some (.int (Int32.ofNat len)), _, _, _, X9, by simp, rfl, rfl, (fun h => by cases h), ⟨rfl, B9, p9.from hh0, f9⟩, fun fs hl => c11.trans (X9.ireturnOut hexec hret rfl (Or.inl rfl) (hb hbytes d46) hl)⟩
end Cmp5
namespace Cmp3
def yN : MethodName := ⟨"java/lang/StringUTF16", "compress", "([CII)[B"⟩
abbrev yB : ByteArray := jdk_52_method_16_code
theorem d0 : decode yB 0 = .ok (.iload_n 2, 1) := by decide +kernel
theorem d1 : decode yB 1 = .ok (.newarray .byte, 2) := by decide +kernel
theorem d3 : decode yB 3 = .ok (.astore_n 3, 1) := by decide +kernel
theorem d4 : decode yB 4 = .ok (.aload_n 0, 1) := by decide +kernel
theorem d5 : decode yB 5 = .ok (.iload_n 1, 1) := by decide +kernel
theorem d6 : decode yB 6 = .ok (.aload_n 3, 1) := by decide +kernel
theorem d7 : decode yB 7 = .ok (.iconst 0, 1) := by decide +kernel
theorem d8 : decode yB 8 = .ok (.iload_n 2, 1) := by decide +kernel
theorem d9 : decode yB 9 = .ok (.invokestatic 115, 3) := by decide +kernel
theorem d12 : decode yB 12 = .ok (.istore 4, 2) := by decide +kernel
theorem d14 : decode yB 14 = .ok (.iload 4, 2) := by decide +kernel
theorem d16 : decode yB 16 = .ok (.iload_n 2, 1) := by decide +kernel
theorem d17 : decode yB 17 = .ok (.if_icmp (.eq) 40, 3) := by decide +kernel
theorem d57 : decode yB 57 = .ok (.aload_n 3, 1) := by decide +kernel
theorem d58 : decode yB 58 = .ok (.areturn, 1) := by decide +kernel
def site : List Cond := [.arrayClass .byte, Cmp5.tab] ++ staticW U16 115 Cmp5.yN
def tab : Cond := tabOf yN yB 6 (some (.array .byte)) site
def P (b : Addr) (A : Cell) (o len : Nat) (args : Array Value) (s : State) : Prop := args = #[.ref b, .int (Int32.ofNat o), .int (Int32.ofNat len)] ∧ Ch b A s ∧ o + len ≤ A.slots.size ∧ len ≤ 536870912 ∧ ∀ i, i < len → ¬ 255 < cv A (o + i)
def E (b : Addr) (A : Cell) (o len : Nat) (r : Option Value) (s u : State) : Prop := NewArr .byte "[B" len (fun j => .int (lo8 (cv A (o + j)))) r s u ∧ u.heap.size = s.heap.size + 1
/-- no char of the range above 255: a new byte[] of their low bytes -/
theorem law (l : Launch) (b : Addr) (A : Cell) (o len : Nat) : Law l yN 3 3 1 18 yB 6 (some (.array .byte)) site (P b A o len) (E b A o len) [] 1 len := by
  refine Law.of_walk (plainFor_of_name (by decide +kernel)) (by decide +kernel) (by decide +kernel) (by decide) (fun _ _ h => by rw [h.1]; rfl) (fun _ U U' hal hh h => ⟨h.1, h.2.1.mv hal hh, h.2.2⟩) (fun r U U' V V' h1 hal h2 h => ⟨NewArr.mv r U U' V V' h1 hal h2 h.1, by rw [h1, h2]; exact h.2⟩) ?_
  intro p e s m args below meth c s₁ X0 hexec hbytes hml hret hlk hnm hown hh0 W hP
  obtain ⟨rfl, hA, l1, l2, hp⟩ := hP
  have a31 := hA.1.2.2.2
  have c1 : Steps p.tables e below (s₁.setTop (entryFrame m #[.ref b, .int (Int32.ofNat o), .int (Int32.ofNat len)] 6)) (s₁.setTop (mkF m 0 #[.val (.ref b), .val (.int (Int32.ofNat o)), .val (.int (Int32.ofNat len)), .unset, .unset, .unset] [])) := entry rfl
  have c2 : Steps p.tables e below (s₁.setTop (entryFrame m #[.ref b, .int (Int32.ofNat o), .int (Int32.ofNat len)] 6)) (s₁.setTop (mkF m 1 #[.val (.ref b), .val (.int (Int32.ofNat o)), .val (.int (Int32.ofNat len)), .unset, .unset, .unset] [.int (Int32.ofNat len)])) := c1.trans (by
    refine XS.iloadN X0.here hexec rfl (hb hbytes d0) rfl ?_
    exact Steps.refl _)
  obtain ⟨T3, B3, X3, ba3, bs3, bv3, bh3, bf3, st3⟩ := X0.anew hexec (atype := .byte) (wk W (.arrayClass .byte)) rfl (by show len * 1 ≤ _; omega) (by omega) (g := (mkF m 1 #[.val (.ref b), .val (.int (Int32.ofNat o)), .val (.int (Int32.ofNat len)), .unset, .unset, .unset] [.int (Int32.ofNat len)])) rfl (hb hbytes d1) (rest := []) rfl (Nat.le_refl _) (by show 0 + len ≤ len; omega)
  rw [hh0] at ba3 st3
  have kp3 : XT.Kept s T3 := (XT.Kept.of_eq hh0).push bh3
  have hA3 := hA.keep X3.warmed.alike (kp3 _ _ hA.1.1)
  have hne : b ≠ s.heap.size := hA.1.ne
  have c4 : Steps p.tables e below (s₁.setTop (entryFrame m #[.ref b, .int (Int32.ofNat o), .int (Int32.ofNat len)] 6)) (T3.setTop (mkF m 3 #[.val (.ref b), .val (.int (Int32.ofNat o)), .val (.int (Int32.ofNat len)), .unset, .unset, .unset] [.ref s.heap.size])) := c2.trans (st3 _ (Steps.refl _))
  have c5 : Steps p.tables e below (s₁.setTop (entryFrame m #[.ref b, .int (Int32.ofNat o), .int (Int32.ofNat len)] 6)) (T3.setTop (mkF m 9 #[.val (.ref b), .val (.int (Int32.ofNat o)), .val (.int (Int32.ofNat len)), .val (.ref s.heap.size), .unset, .unset] [.int (Int32.ofNat len), .int 0, .ref s.heap.size, .int (Int32.ofNat o), .ref b])) := c4.trans (by
    refine XS.astoreN X3.here hexec rfl (hb hbytes d3) rfl rfl rfl ?_
    refine XS.aloadN X3.here hexec rfl (hb hbytes d4) rfl rfl ?_
    refine XS.iloadN X3.here hexec rfl (hb hbytes d5) rfl ?_
    refine XS.aloadN X3.here hexec rfl (hb hbytes d6) rfl rfl ?_
    refine iconstV X3.here hexec rfl 0 (hb hbytes d7) (by decide) ?_
    refine XS.iloadN X3.here hexec rfl (hb hbytes d8) rfl ?_
    exact Steps.refl _)
  obtain ⟨v6, T6, X6, E6, g6⟩ := X3.callS hexec (Cmp5.law l b A s.heap.size B3 o 0 len) hown (wks W (staticW U16 115 Cmp5.yN)) (wk W Cmp5.tab) (W := 0) (Nat.le_of_ble_eq_true rfl) (Nat.le_of_ble_eq_true rfl) (Nat.le_refl _) (by show 0 + len + 0 ≤ len; omega) (g := (mkF m 9 #[.val (.ref b), .val (.int (Int32.ofNat o)), .val (.int (Int32.ofNat len)), .val (.ref s.heap.size), .unset, .unset] [.int (Int32.ofNat len), .int (Int32.ofNat 0), .ref s.heap.size, .int (Int32.ofNat o), .ref b])) rfl (by rw [hml]; rfl) c5 (argsL := [.ref b, .int (Int32.ofNat o), .ref s.heap.size, .int (Int32.ofNat 0), .int (Int32.ofNat len)]) (rest := []) rfl rfl (by show 2 * 0 + 0 ≤ _; decide) (hb hbytes d9) (⟨rfl, hA3, ba3, hne, l1, by rw [bs3]; simp, hp⟩)
  obtain ⟨rfl, B6, p6, f6⟩ := E6
  have c7 : Steps p.tables e below (s₁.setTop (entryFrame m #[.ref b, .int (Int32.ofNat o), .int (Int32.ofNat len)] 6)) (T6.setTop (mkF m 12 #[.val (.ref b), .val (.int (Int32.ofNat o)), .val (.int (Int32.ofNat len)), .val (.ref s.heap.size), .unset, .unset] [.int (Int32.ofNat len)])) := g6
  have c8 : Steps p.tables e below (s₁.setTop (entryFrame m #[.ref b, .int (Int32.ofNat o), .int (Int32.ofNat len)] 6)) (T6.setTop (mkF m 58 #[.val (.ref b), .val (.int (Int32.ofNat o)), .val (.int (Int32.ofNat len)), .val (.ref s.heap.size), .val (.int (Int32.ofNat len)), .unset] [.ref s.heap.size])) := c7.trans (by
    refine XS.istore X6.here hexec rfl (hb hbytes d12) rfl rfl ?_
    refine XS.iload X6.here hexec rfl (hb hbytes d14) rfl ?_
    refine XS.iloadN X6.here hexec rfl (hb hbytes d16) rfl ?_
    refine XS.icmpYes X6.here hexec rfl (pc0 := 17) rfl (hb hbytes d17) rfl (ii_eq_t rfl) (by decide) rfl ?_
    refine XS.aloadN X6.here hexec rfl (hb hbytes d57) rfl rfl ?_
    exact Steps.refl _)
  have X8 := X6.wide (L' := []) (cells' := 1) (slots' := len) (fun x hx hlt => by
    simp only [List.nil_append, copyLocs, List.mem_map, List.mem_range] at hx
    obtain ⟨i, -, rfl⟩ := hx
    exact absurd hlt (Nat.lt_irrefl _)) (Nat.le_refl _) (by omega)
  exact ⟨T6, some (.ref s.heap.size), _, _, _, X8, rfl, rfl, rfl, (fun h => by cases h), ⟨⟨rfl, B6, ba3.like (X3.warmed.alike.symm.trans X6.warmed.alike) p6.1 f6.1 f6.2.1 f6.2.2.1, f6.2.1.trans bv3, by rw [X6.warmed.alike.findClass, f6.1]; exact bf3, by rw [f6.2.2.1, bs3]; simp, fun j hj => by rw [f6.2.2.2 j, if_pos (by omega)]; rfl, kp3.put p6 (Nat.le_refl _)⟩, by rw [p6.2.2, bh3, hh0]; simp⟩, fun fs hl => c8.trans (X8.areturnOut hexec rfl hret rfl (hb hbytes d58) hl)⟩
end Cmp3
namespace CodL
def yN : MethodName := ⟨"java/lang/StringUTF16", "coderFromArrayLen", "([BI)B"⟩
abbrev yB : ByteArray := jdk_52_method_15_code
theorem d0 : decode yB 0 = .ok (.iload_n 1, 1) := by decide +kernel
theorem d1 : decode yB 1 = .ok (.aload_n 0, 1) := by decide +kernel
theorem d2 : decode yB 2 = .ok (.arraylength, 1) := by decide +kernel
theorem d3 : decode yB 3 = .ok (.isub, 1) := by decide +kernel
theorem d4 : decode yB 4 = .ok (.bipush 31, 2) := by decide +kernel
theorem d6 : decode yB 6 = .ok (.iushr, 1) := by decide +kernel
theorem d7 : decode yB 7 = .ok (.i2b, 1) := by decide +kernel
theorem d8 : decode yB 8 = .ok (.ireturn, 1) := by decide +kernel
def site : List Cond := []
def tab : Cond := tabOf yN yB 2 (some .byte) site
def P (d : Addr) (B : Cell) (args : Array Value) (s : State) : Prop := args = #[.ref d, .int (Int32.ofNat B.slots.size)] ∧ Arr .byte d B s
def E (r : Option Value) (s u : State) : Prop := XT.PureE (some (.int 0)) r s u
/-- an array as long as the number of chars: LATIN1 -/
theorem law (l : Launch) (d : Addr) (B : Cell) : Law l yN 2 2 0 0 yB 2 (some .byte) site (P d B) E [] 0 0 := by
  refine Law.of_walk (plainFor_of_name (by decide +kernel)) (by decide +kernel) (by decide +kernel) (by decide) (fun _ _ h => by rw [h.1]; rfl) (fun _ U U' hal hh h => ⟨h.1, h.2.mv hal hh⟩) (fun r U U' V V' h1 hal h2 h => XT.PureE.mv r U U' V V' h1 hal h2 h) ?_
  intro p e s m args below meth c s₁ X0 hexec hbytes hml hret hlk hnm hown hh0 W hP
  obtain ⟨rfl, hB⟩ := hP
  have hB0 := hB.mv X0.warmed.alike hh0
  have c1 : Steps p.tables e below (s₁.setTop (entryFrame m #[.ref d, .int (Int32.ofNat B.slots.size)] 2)) (s₁.setTop (mkF m 0 #[.val (.ref d), .val (.int (Int32.ofNat B.slots.size))] [])) := entry rfl
  have c2 : Steps p.tables e below (s₁.setTop (entryFrame m #[.ref d, .int (Int32.ofNat B.slots.size)] 2)) (s₁.setTop (mkF m 2 #[.val (.ref d), .val (.int (Int32.ofNat B.slots.size))] [.ref d, .int (Int32.ofNat B.slots.size)])) := c1.trans (by
    refine XS.iloadN X0.here hexec rfl (hb hbytes d0) rfl ?_
    refine XS.aloadN X0.here hexec rfl (hb hbytes d1) rfl rfl ?_
    exact Steps.refl _)
  have c3 : Steps p.tables e below (s₁.setTop (entryFrame m #[.ref d, .int (Int32.ofNat B.slots.size)] 2)) (s₁.setTop (mkF m 8 #[.val (.ref d), .val (.int (Int32.ofNat B.slots.size))] [.int (lo8 (ushr (Int32.ofNat B.slots.size - Int32.ofNat B.slots.size) 31))])) := c2.trans (by
    refine X0.alen hexec hB0 rfl rfl (hb hbytes d2) ?_
    refine XS.isub X0.here hexec rfl (hb hbytes d3) rfl ?_
    refine bipushV X0.here hexec rfl 31 (hb hbytes d4) (by decide) ?_
    refine iushr X0.here hexec rfl (hb hbytes d6) rfl ?_
    refine i2b X0.here hexec rfl (hb hbytes d7) rfl ?_
    exact Steps.refl _)
  have e0 : lo8 (ushr (Int32.ofNat B.slots.size - Int32.ofNat B.slots.size) 31) = 0 := by rw [Int32.sub_self]; decide
  rw [e0] at c3
  exact ⟨s₁, some (.int 0), _, _, _, X0, rfl, rfl, rfl, (fun h => by cases h), ⟨rfl, hh0⟩, fun fs hl => c3.trans (X0.ireturnOut hexec hret rfl (Or.inr (Or.inr (Or.inl rfl))) (hb hbytes d8) hl)⟩
end CodL
/-- the String at a is Latin-1 over a new byte[] (the heap's one new cell): the low bytes of the len chars of A from o on; every cell but a is kept -/
def Got (a : Addr) (D : Cell) (fV fC : Field) (A : Cell) (o len : Nat) (r : Option Value) (s u : State) : Prop := r = none ∧ ∃ D' V : Cell, Blank "java/lang/String" a D' u ∧ Same D D' [fV.slot, fC.slot] ∧ D'.slots[fV.slot]? = some (.ref s.heap.size) ∧ D'.slots[fC.slot]? = some (.int 0) ∧ Arr .byte s.heap.size V u ∧ V.vm = .none ∧ u.vm.findClass "[B" = some V.cls ∧ V.slots.size = len ∧ (∀ j, j < len → V.slots[j]? = some (.int (lo8 (cv A (o + j))))) ∧ (∀ (y : Addr) (c : Cell), y ≠ a → s.heap[y]? = some c → u.heap[y]? = some c) ∧ u.heap.size = s.heap.size + 1
theorem Got.mv {a : Addr} {D A : Cell} {fV fC : Field} {o len : Nat} : ∀ r (U U' V V' : State), U'.heap = U.heap → V.vm.Alike V'.vm → V'.heap = V.heap → Got a D fV fC A o len r U V → Got a D fV fC A o len r U' V' :=
  fun r U U' V V' h1 hal h2 ⟨e0, D', X, a1, a2, a3, a4, a5, a6, a7, a8, a9, a10, a11⟩ => ⟨e0, D', X, a1.mv hal h2, a2, by rw [h1]; exact a3, a4, by rw [h1]; exact a5.mv hal h2, a6, by rw [hal.findClass]; exact a7, a8, a9, by rw [h1, h2]; exact a10, by rw [h1, h2]; exact a11⟩
namespace New4
def yN : MethodName := ⟨"java/lang/String", "<init>", "([CIILjava/lang/Void;)V"⟩
abbrev yB : ByteArray := jdk_42_method_149_code
theorem d0 : decode yB 0 = .ok (.aload_n 0, 1) := by decide +kernel
theorem d1 : decode yB 1 = .ok (.invokespecial 1, 3) := by decide +kernel
theorem d4 : decode yB 4 = .ok (.iload_n 3, 1) := by decide +kernel
theorem d5 : decode yB 5 = .ok (.ifCond (.ne) 22, 3) := by decide +kernel
theorem d27 : decode yB 27 = .ok (.getstatic 38, 3) := by decide +kernel
theorem d30 : decode yB 30 = .ok (.ifCond (.eq) 28, 3) := by decide +kernel
theorem d33 : decode yB 33 = .ok (.aload_n 1, 1) := by decide +kernel
theorem d34 : decode yB 34 = .ok (.iload_n 2, 1) := by decide +kernel
theorem d35 : decode yB 35 = .ok (.iload_n 3, 1) := by decide +kernel
theorem d36 : decode yB 36 = .ok (.invokestatic 177, 3) := by decide +kernel
theorem d39 : decode yB 39 = .ok (.astore 5, 2) := by decide +kernel
theorem d41 : decode yB 41 = .ok (.aload_n 0, 1) := by decide +kernel
theorem d42 : decode yB 42 = .ok (.aload 5, 2) := by decide +kernel
theorem d44 : decode yB 44 = .ok (.iload_n 3, 1) := by decide +kernel
theorem d45 : decode yB 45 = .ok (.invokestatic 47, 3) := by decide +kernel
theorem d48 : decode yB 48 = .ok (.putfield 15, 3) := by decide +kernel
theorem d51 : decode yB 51 = .ok (.aload_n 0, 1) := by decide +kernel
theorem d52 : decode yB 52 = .ok (.aload 5, 2) := by decide +kernel
theorem d54 : decode yB 54 = .ok (.putfield 9, 3) := by decide +kernel
theorem d57 : decode yB 57 = .ok (.return_, 1) := by decide +kernel
def site : List Cond := [.fieldLink "java/lang/String" 38 "java/lang/String" "COMPACT_STRINGS" "Z", Cmp3.tab, CodL.tab, .laysFinal "java/lang/String" "java/lang/String" "value" "[B", .fieldLink "java/lang/String" 9 "java/lang/String" "value" "[B", .laysFinal "java/lang/String" "java/lang/String" "coder" "B", .fieldLink "java/lang/String" 15 "java/lang/String" "coder" "B"] ++ objW "java/lang/String" 1 ++ staticW "java/lang/String" 177 Cmp3.yN ++ staticW "java/lang/String" 47 CodL.yN
def tab : Cond := tabOf yN yB 6 none site
def P (a : Addr) (D : Cell) (fV fC : Field) (b : Addr) (A : Cell) (z : Int32) (o len : Nat) (args : Array Value) (s : State) : Prop := args = #[.ref a, .ref b, .int (Int32.ofNat o), .int (Int32.ofNat len), .null] ∧ Blank "java/lang/String" a D s ∧ Found "java/lang/String" "value" "[B" fV s ∧ Found "java/lang/String" "coder" "B" fC s ∧ Ch b A s ∧ StaticIs s "java/lang/String" "COMPACT_STRINGS" "Z" (.int z) ∧ ¬ z = 0 ∧ 0 < len ∧ o + len ≤ A.slots.size ∧ len ≤ 536870912 ∧ ∀ i, i < len → ¬ 255 < cv A (o + i)
def E (a : Addr) (D : Cell) (fV fC : Field) (A : Cell) (o len : Nat) (r : Option Value) (s u : State) : Prop := Got a D fV fC A o len r s u
/-- len > 0, no char of the range above 255: a Latin-1 String of their low bytes -/
theorem law (l : Launch) (a : Addr) (D : Cell) (fV fC : Field) (b : Addr) (A : Cell) (z : Int32) (o len : Nat) : Law l yN 5 4 2 35 yB 6 none site (P a D fV fC b A z o len) (E a D fV fC A o len) [⟨a, fC.slot⟩, ⟨a, fV.slot⟩] 1 len := by
  refine Law.of_walk (plainFor_of_name (by decide +kernel)) (by decide +kernel) (by decide +kernel) (by decide) (fun _ _ h => by rw [h.1]; rfl) (fun _ U U' hal hh h => ⟨h.1, h.2.1.mv hal hh, h.2.2.1.al hal, h.2.2.2.1.al hal, h.2.2.2.2.1.mv hal hh, h.2.2.2.2.2.1.there hal hh, h.2.2.2.2.2.2⟩) (fun r U U' V V' h1 hal h2 h => Got.mv r U U' V V' h1 hal h2 h) ?_
  intro p e s m args below meth c s₁ X0 hexec hbytes hml hret hlk hnm hown hh0 W hP
  obtain ⟨rfl, hB, f1, f2, hA, s1, hz, l0, l1, l2, hp⟩ := hP
  have a31 := hA.1.2.2.2
  have c1 : Steps p.tables e below (s₁.setTop (entryFrame m #[.ref a, .ref b, .int (Int32.ofNat o), .int (Int32.ofNat len), .null] 6)) (s₁.setTop (mkF m 0 #[.val (.ref a), .val (.ref b), .val (.int (Int32.ofNat o)), .val (.int (Int32.ofNat len)), .val .null, .unset] [])) := entry rfl
  have c2 : Steps p.tables e below (s₁.setTop (entryFrame m #[.ref a, .ref b, .int (Int32.ofNat o), .int (Int32.ofNat len), .null] 6)) (s₁.setTop (mkF m 1 #[.val (.ref a), .val (.ref b), .val (.int (Int32.ofNat o)), .val (.int (Int32.ofNat len)), .val .null, .unset] [.ref a])) := c1.trans (by
    refine XS.aloadN X0.here hexec rfl (hb hbytes d0) rfl rfl ?_
    exact Steps.refl _)
  obtain ⟨T3, X3, q3, st3⟩ := X0.oinit hexec hown (wks W (objW "java/lang/String" 1)) (g := (mkF m 1 #[.val (.ref a), .val (.ref b), .val (.int (Int32.ofNat o)), .val (.int (Int32.ofNat len)), .val .null, .unset] [.ref a])) rfl (by rw [hml]; rfl) (rest := []) rfl (hb hbytes d1) (W := 0) (by show 2 * 0 + 0 ≤ _; decide) (Nat.le_of_ble_eq_true rfl) (Nat.le_of_ble_eq_true rfl)
  have hh3 := q3.trans hh0
  have c4 : Steps p.tables e below (s₁.setTop (entryFrame m #[.ref a, .ref b, .int (Int32.ofNat o), .int (Int32.ofNat len), .null] 6)) (T3.setTop (mkF m 27 #[.val (.ref a), .val (.ref b), .val (.int (Int32.ofNat o)), .val (.int (Int32.ofNat len)), .val .null, .unset] [])) := (c2.trans (st3 _ (Steps.refl _))).trans (by
    refine XS.iloadN X3.here hexec rfl (hb hbytes d4) rfl ?_
    refine XS.ifYes X3.here hexec rfl (pc0 := 5) rfl (hb hbytes d5) rfl (i0_ne_t (nz32 (by omega) l0)) (by decide) rfl ?_
    exact Steps.refl _)
  obtain ⟨T5, X5, q5, st5⟩ := X3.sget hexec hown (wk W (.fieldLink "java/lang/String" 38 "java/lang/String" "COMPACT_STRINGS" "Z")) s1 (fun _ _ h => by rw [hh3]; exact h) (g := (mkF m 27 #[.val (.ref a), .val (.ref b), .val (.int (Int32.ofNat o)), .val (.int (Int32.ofNat len)), .val .null, .unset] [])) rfl (hb hbytes d27)
  have hh5 := q5.trans hh3
  have c6 : Steps p.tables e below (s₁.setTop (entryFrame m #[.ref a, .ref b, .int (Int32.ofNat o), .int (Int32.ofNat len), .null] 6)) (T5.setTop (mkF m 30 #[.val (.ref a), .val (.ref b), .val (.int (Int32.ofNat o)), .val (.int (Int32.ofNat len)), .val .null, .unset] [.int z])) := c4.trans (st5 _ (Steps.refl _))
  have c7 : Steps p.tables e below (s₁.setTop (entryFrame m #[.ref a, .ref b, .int (Int32.ofNat o), .int (Int32.ofNat len), .null] 6)) (T5.setTop (mkF m 36 #[.val (.ref a), .val (.ref b), .val (.int (Int32.ofNat o)), .val (.int (Int32.ofNat len)), .val .null, .unset] [.int (Int32.ofNat len), .int (Int32.ofNat o), .ref b])) := c6.trans (by
    refine XS.ifNo X5.here hexec rfl (hb hbytes d30) rfl (i0_eq_f hz) ?_
    refine XS.aloadN X5.here hexec rfl (hb hbytes d33) rfl rfl ?_
    refine XS.iloadN X5.here hexec rfl (hb hbytes d34) rfl ?_
    refine XS.iloadN X5.here hexec rfl (hb hbytes d35) rfl ?_
    exact Steps.refl _)
  obtain ⟨v8, T8, X8, E8, g8⟩ := X5.callS hexec (Cmp3.law l b A o len) hown (wks W (staticW "java/lang/String" 177 Cmp3.yN)) (wk W Cmp3.tab) (W := 0) (Nat.le_of_ble_eq_true rfl) (Nat.le_of_ble_eq_true rfl) (Nat.le_refl _) (by show 0 + len ≤ len; omega) (g := (mkF m 36 #[.val (.ref a), .val (.ref b), .val (.int (Int32.ofNat o)), .val (.int (Int32.ofNat len)), .val .null, .unset] [.int (Int32.ofNat len), .int (Int32.ofNat o), .ref b])) rfl (by rw [hml]; rfl) c7 (argsL := [.ref b, .int (Int32.ofNat o), .int (Int32.ofNat len)]) (rest := []) rfl rfl (by show 2 * 0 + 0 ≤ _; decide) (hb hbytes d36) (⟨rfl, hA.mv X5.warmed.alike hh5, l1, l2, hp⟩)
  obtain ⟨e8, z8⟩ := E8
  obtain ⟨rfl, N, n1, n2, n3, n4, n5, n6⟩ := NewArr.mv _ T5 s _ _ hh5.symm (Vm.Alike.refl _) rfl e8
  rw [hh5] at z8
  have hB1 := hB.keep X8.warmed.alike (n6 _ _ hB.1)
  have hne : s.heap.size ≠ a := (Nat.ne_of_lt (Array.getElem?_eq_some_iff.mp hB.1).1).symm
  have c9 : Steps p.tables e below (s₁.setTop (entryFrame m #[.ref a, .ref b, .int (Int32.ofNat o), .int (Int32.ofNat len), .null] 6)) (T8.setTop (mkF m 39 #[.val (.ref a), .val (.ref b), .val (.int (Int32.ofNat o)), .val (.int (Int32.ofNat len)), .val .null, .unset] [.ref s.heap.size])) := g8
  have c10 : Steps p.tables e below (s₁.setTop (entryFrame m #[.ref a, .ref b, .int (Int32.ofNat o), .int (Int32.ofNat len), .null] 6)) (T8.setTop (mkF m 45 #[.val (.ref a), .val (.ref b), .val (.int (Int32.ofNat o)), .val (.int (Int32.ofNat len)), .val .null, .val (.ref s.heap.size)] [.int (Int32.ofNat N.slots.size), .ref s.heap.size, .ref a])) := by
    have hc : Steps p.tables e below (s₁.setTop (entryFrame m #[.ref a, .ref b, .int (Int32.ofNat o), .int (Int32.ofNat len), .null] 6)) (T8.setTop (mkF m 45 #[.val (.ref a), .val (.ref b), .val (.int (Int32.ofNat o)), .val (.int (Int32.ofNat len)), .val .null, .val (.ref s.heap.size)] [.int (Int32.ofNat len), .ref s.heap.size, .ref a])) := c9.trans (by
      refine XS.astore X8.here hexec rfl (hb hbytes d39) rfl rfl rfl ?_
      refine XS.aloadN X8.here hexec rfl (hb hbytes d41) rfl rfl ?_
      refine XS.aload X8.here hexec rfl (hb hbytes d42) rfl rfl ?_
      refine XS.iloadN X8.here hexec rfl (hb hbytes d44) rfl ?_
      exact Steps.refl _)
    rw [n4]; exact hc
  obtain ⟨v11, T11, X11, E11, g11⟩ := X8.callS hexec (CodL.law l s.heap.size N) hown (wks W (staticW "java/lang/String" 47 CodL.yN)) (wk W CodL.tab) (W := 1) (Nat.le_of_ble_eq_true rfl) (Nat.le_of_ble_eq_true rfl) (Nat.le_refl _) (by show 0 + len + 0 ≤ len; omega) (g := (mkF m 45 #[.val (.ref a), .val (.ref b), .val (.int (Int32.ofNat o)), .val (.int (Int32.ofNat len)), .val .null, .val (.ref s.heap.size)] [.int (Int32.ofNat N.slots.size), .ref s.heap.size, .ref a])) rfl (by rw [hml]; rfl) c10 (argsL := [.ref s.heap.size, .int (Int32.ofNat N.slots.size)]) (rest := [.ref a]) rfl rfl (by show 2 * 0 + (1 + 0) ≤ _; decide) (hb hbytes d45) (⟨rfl, n1⟩)
  obtain ⟨rfl, q11⟩ := E11
  have hB11 := hB1.mv (X8.warmed.alike.symm.trans X11.warmed.alike) q11
  have c12 : Steps p.tables e below (s₁.setTop (entryFrame m #[.ref a, .ref b, .int (Int32.ofNat o), .int (Int32.ofNat len), .null] 6)) (T11.setTop (mkF m 48 #[.val (.ref a), .val (.ref b), .val (.int (Int32.ofNat o)), .val (.int (Int32.ofNat len)), .val .null, .val (.ref s.heap.size)] [.int 0, .ref a])) := g11
  obtain ⟨T13, X13, p13, bl13, sl13, st13⟩ := X11.finit hexec hown (wk W (.fieldLink "java/lang/String" 15 "java/lang/String" "coder" "B")) (Or.inr ⟨_, (wk W (.laysFinal "java/lang/String" "java/lang/String" "coder" "B"))⟩) (Or.inl ⟨rfl, hnm⟩) f2 (Or.inl rfl) hB11 (t := .byte) (by decide +kernel) rfl (g := (mkF m 48 #[.val (.ref a), .val (.ref b), .val (.int (Int32.ofNat o)), .val (.int (Int32.ofNat len)), .val .null, .val (.ref s.heap.size)] [.int 0, .ref a])) rfl (rest := []) rfl (hb hbytes d48)
  have c14 : Steps p.tables e below (s₁.setTop (entryFrame m #[.ref a, .ref b, .int (Int32.ofNat o), .int (Int32.ofNat len), .null] 6)) (T13.setTop (mkF m 54 #[.val (.ref a), .val (.ref b), .val (.int (Int32.ofNat o)), .val (.int (Int32.ofNat len)), .val .null, .val (.ref s.heap.size)] [.ref s.heap.size, .ref a])) := (c12.trans (st13 _ (Steps.refl _))).trans (by
    refine XS.aloadN X13.here hexec rfl (hb hbytes d51) rfl rfl ?_
    refine XS.aload X13.here hexec rfl (hb hbytes d52) rfl rfl ?_
    exact Steps.refl _)
  obtain ⟨T15, X15, p15, bl15, sl15, st15⟩ := X13.finit hexec hown (wk W (.fieldLink "java/lang/String" 9 "java/lang/String" "value" "[B")) (Or.inr ⟨_, (wk W (.laysFinal "java/lang/String" "java/lang/String" "value" "[B"))⟩) (Or.inl ⟨rfl, hnm⟩) f1 (Or.inl rfl) bl13 (t := (.array .byte)) (by decide +kernel) rfl (g := (mkF m 54 #[.val (.ref a), .val (.ref b), .val (.int (Int32.ofNat o)), .val (.int (Int32.ofNat len)), .val .null, .val (.ref s.heap.size)] [.ref s.heap.size, .ref a])) rfl (rest := []) rfl (hb hbytes d54)
  have c16 : Steps p.tables e below (s₁.setTop (entryFrame m #[.ref a, .ref b, .int (Int32.ofNat o), .int (Int32.ofNat len), .null] 6)) (T15.setTop (mkF m 57 #[.val (.ref a), .val (.ref b), .val (.int (Int32.ofNat o)), .val (.int (Int32.ofNat len)), .val .null, .val (.ref s.heap.size)] [])) := c14.trans (st15 _ (Steps.refl _))
  have ap := apart (Or.inr ⟨_, (wk W (.laysFinal "java/lang/String" "java/lang/String" "value" "[B"))⟩) (Or.inr ⟨_, (wk W (.laysFinal "java/lang/String" "java/lang/String" "coder" "B"))⟩) f1 f2 (t₁ := .array .byte) (t₂ := .byte) (by decide +kernel) (by decide +kernel) (by decide)
  have al := X8.warmed.alike.symm.trans X15.warmed.alike
  have n7 : T11.heap[s.heap.size]? = some N := by rw [q11]; exact n1.1
  exact ⟨T15, none, _, _, _, X15, by simp, rfl, by omega, (fun _ => rfl), ⟨rfl, _, N, bl15, ((Same.refl D _).set _ (by simp)).set _ (by simp), sl15, (Cell.slots_setSlot_ne _ ap).trans sl13, n1.keep al (p15.other hne (p13.other hne n7)), n2, by rw [al.findClass]; exact n3, n4, n5, fun y c h1 h2 => p15.other h1 (p13.other h1 (by rw [q11]; exact n6 y c h2)), by rw [p15.2.2, p13.2.2, q11]; exact z8⟩, fun fs hl => c16.trans (X15.returnOut hexec hret (hb hbytes d57) hl)⟩
end New4
namespace New1
def yN : MethodName := ⟨"java/lang/String", "<init>", "([C)V"⟩
abbrev yB : ByteArray := jdk_42_method_3_code
theorem d0 : decode yB 0 = .ok (.aload_n 0, 1) := by decide +kernel
theorem d1 : decode yB 1 = .ok (.aload_n 1, 1) := by decide +kernel
theorem d2 : decode yB 2 = .ok (.iconst 0, 1) := by decide +kernel
theorem d3 : decode yB 3 = .ok (.aload_n 1, 1) := by decide +kernel
theorem d4 : decode yB 4 = .ok (.arraylength, 1) := by decide +kernel
theorem d5 : decode yB 5 = .ok (.aconst_null, 1) := by decide +kernel
theorem d6 : decode yB 6 = .ok (.invokespecial 27, 3) := by decide +kernel
theorem d9 : decode yB 9 = .ok (.return_, 1) := by decide +kernel
def site : List Cond := [New4.tab] ++ initW "java/lang/String" 27 New4.yN
def tab : Cond := tabOf yN yB 2 none site
def P (a : Addr) (D : Cell) (fV fC : Field) (b : Addr) (A : Cell) (z : Int32) (args : Array Value) (s : State) : Prop := args = #[.ref a, .ref b] ∧ Blank "java/lang/String" a D s ∧ Found "java/lang/String" "value" "[B" fV s ∧ Found "java/lang/String" "coder" "B" fC s ∧ Ch b A s ∧ StaticIs s "java/lang/String" "COMPACT_STRINGS" "Z" (.int z) ∧ ¬ z = 0 ∧ 0 < A.slots.size ∧ A.slots.size ≤ 536870912 ∧ ∀ i, i < A.slots.size → ¬ 255 < cv A i
def E (a : Addr) (D : Cell) (fV fC : Field) (A : Cell) (r : Option Value) (s u : State) : Prop := Got a D fV fC A 0 A.slots.size r s u
/-- new String(chars), not empty, no char above 255: a Latin-1 String of their low bytes -/
theorem law (l : Launch) (a : Addr) (D : Cell) (fV fC : Field) (b : Addr) (A : Cell) (z : Int32) : Law l yN 2 1 3 52 yB 2 none site (P a D fV fC b A z) (E a D fV fC A) [⟨a, fC.slot⟩, ⟨a, fV.slot⟩] 1 A.slots.size := by
  refine Law.of_walk (plainFor_of_name (by decide +kernel)) (by decide +kernel) (by decide +kernel) (by decide) (fun _ _ h => by rw [h.1]; rfl) (fun _ U U' hal hh h => ⟨h.1, h.2.1.mv hal hh, h.2.2.1.al hal, h.2.2.2.1.al hal, h.2.2.2.2.1.mv hal hh, h.2.2.2.2.2.1.there hal hh, h.2.2.2.2.2.2⟩) (fun r U U' V V' h1 hal h2 h => Got.mv r U U' V V' h1 hal h2 h) ?_
  intro p e s m args below meth c s₁ X0 hexec hbytes hml hret hlk hnm hown hh0 W hP
  obtain ⟨rfl, hB, f1, f2, hA, s1, hz, l0, l2, hp⟩ := hP
  have c1 : Steps p.tables e below (s₁.setTop (entryFrame m #[.ref a, .ref b] 2)) (s₁.setTop (mkF m 0 #[.val (.ref a), .val (.ref b)] [])) := entry rfl
  have c2 : Steps p.tables e below (s₁.setTop (entryFrame m #[.ref a, .ref b] 2)) (s₁.setTop (mkF m 6 #[.val (.ref a), .val (.ref b)] [.null, .int (Int32.ofNat A.slots.size), .int 0, .ref b, .ref a])) := c1.trans (by
    refine XS.aloadN X0.here hexec rfl (hb hbytes d0) rfl rfl ?_
    refine XS.aloadN X0.here hexec rfl (hb hbytes d1) rfl rfl ?_
    refine iconstV X0.here hexec rfl 0 (hb hbytes d2) (by decide) ?_
    refine XS.aloadN X0.here hexec rfl (hb hbytes d3) rfl rfl ?_
    refine X0.alen hexec (hA.1.mv X0.warmed.alike hh0) rfl rfl (hb hbytes d4) ?_
    refine XS.aconstNull X0.here hexec rfl (hb hbytes d5) ?_
    exact Steps.refl _)
  obtain ⟨v3, T3, X3, E3, g3⟩ := X0.callN hexec (New4.law l a D fV fC b A z 0 A.slots.size) rfl hown (wks W (initW "java/lang/String" 27 New4.yN)) (W New4.tab (by simp only [site, List.mem_cons, List.mem_append, true_or, or_true])) (W := 0) (Nat.le_of_ble_eq_true rfl) (Nat.le_of_ble_eq_true rfl) (Nat.le_refl _) (by show 0 + A.slots.size ≤ A.slots.size; omega) (g := (mkF m 6 #[.val (.ref a), .val (.ref b)] [.null, .int (Int32.ofNat A.slots.size), .int (Int32.ofNat 0), .ref b, .ref a])) rfl (by rw [hml]; rfl) c2 (argsL := [.ref b, .int (Int32.ofNat 0), .int (Int32.ofNat A.slots.size), .null]) (rest := []) rfl rfl (by show 2 * 0 + 0 ≤ _; decide) (hb hbytes d6) (⟨rfl, hB.mv X0.warmed.alike hh0, f1.al X0.warmed.alike, f2.al X0.warmed.alike, hA.mv X0.warmed.alike hh0, s1.there X0.warmed.alike hh0, hz, l0, by omega, l2, fun i hi => by rw [Nat.zero_add]; exact hp i hi⟩)
  have e0 := Got.mv _ s₁ s _ _ hh0.symm (Vm.Alike.refl _) rfl E3
  obtain rfl := e0.1
  have c4 : Steps p.tables e below (s₁.setTop (entryFrame m #[.ref a, .ref b] 2)) (T3.setTop (mkF m 9 #[.val (.ref a), .val (.ref b)] [])) := g3
  exact ⟨T3, none, _, _, _, X3, by simp, rfl, by omega, (fun _ => rfl), e0, fun fs hl => c4.trans (X3.returnOut hexec hret (hb hbytes d9) hl)⟩
theorem pays {l : Launch} {R : Room} {p : Program} {e : Env} {below : List Frame} {s : State} {sargs : Array Value} {len W : Nat} (a : Addr) (D : Cell) (fV fC : Field) (b : Addr) (A : Cell) (z : Int32) (htab : tab.before sargs s = true) (hfr : 4 ≤ R.frames) (hlo : W + 65 ≤ R.locals) :
    Back l R p e below s sargs yN len W (fun A₁ a₁ => A₁.cells + 1 ≤ R.cells ∧ A₁.slots + A.slots.size ≤ R.slots ∧ P a D fV fC b A z a₁ A₁.U) (fun A₁ _ v₁ B₁ => E a D fV fC A v₁ A₁.U B₁.U ∧ B₁.locs = A₁.locs ++ [⟨a, fC.slot⟩, ⟨a, fV.slot⟩] ∧ B₁.cells = A₁.cells + 1 ∧ B₁.slots = A₁.slots + A.slots.size) :=
  (law l a D fV fC b A z).pays htab hfr (by omega)
end New1
end StrChars
namespace StrChars.Road
open Jvm Sem ClassFile Op Lib Jvm.Stand Jvm.Free Jvm.Free.XT
open Jvm.Lib.Cold (StaticIs)
abbrev ST : String := "java/lang/String"
/-- every table word that New1's law asks, flat -/
abbrev words : List Jvm.Cond := [.code New1.yN New1.yB 2 none, .initialized ST, .methodLink ST 27 New4.yN, .instanceMethod New4.yN,
  .code New4.yN New4.yB 6 none, .fieldLink ST 38 ST "COMPACT_STRINGS" "Z", .laysFinal ST ST "value" "[B", .fieldLink ST 9 ST "value" "[B", .laysFinal ST ST "coder" "B", .fieldLink ST 15 ST "coder" "B",
  .methodLink ST 1 Lib.objectInit, .instanceMethod Lib.objectInit, .code Lib.objectInit ⟨#[0xb1]⟩ 1 none, .methodLink ST 177 Cmp3.yN, .static Cmp3.yN, .methodLink ST 47 CodL.yN, .static CodL.yN,
  .code Cmp3.yN Cmp3.yB 6 (some (.array .byte)), .initialized U16, .arrayClass .byte, .methodLink U16 115 Cmp5.yN, .static Cmp5.yN, .code Cmp5.yN Cmp5.yB 7 (some .int), .code CodL.yN CodL.yB 2 (some .byte)]
theorem tab_of {a : Array Value} {s : State} (h : ∀ w ∈ words, w.before a s = true) : New1.tab.before a s = true := by
  have h5 : Cmp5.tab.before a s = true := unparts (wk h (.code Cmp5.yN Cmp5.yB 7 (some .int))) (wks h (.initialized Cmp5.yN.cls :: Cmp5.site))
  have hc : CodL.tab.before a s = true := unparts (wk h (.code CodL.yN CodL.yB 2 (some .byte))) (wks h (.initialized CodL.yN.cls :: CodL.site))
  have q5 : ∀ w ∈ Cmp5.tab :: words, w.before a s = true := fun w hw => (List.mem_cons.mp hw).elim (fun e => e ▸ h5) (h w)
  have h3 : Cmp3.tab.before a s = true := unparts (wk q5 (.code Cmp3.yN Cmp3.yB 6 (some (.array .byte)))) (wks q5 (.initialized Cmp3.yN.cls :: Cmp3.site))
  have q3 : ∀ w ∈ Cmp3.tab :: CodL.tab :: words, w.before a s = true := fun w hw => (List.mem_cons.mp hw).elim (fun e => e ▸ h3) fun hw => (List.mem_cons.mp hw).elim (fun e => e ▸ hc) (h w)
  have h4 : New4.tab.before a s = true := unparts (wk q3 (.code New4.yN New4.yB 6 none)) (wks q3 (.initialized New4.yN.cls :: New4.site))
  have q4 : ∀ w ∈ New4.tab :: words, w.before a s = true := fun w hw => (List.mem_cons.mp hw).elim (fun e => e ▸ h4) (h w)
  exact unparts (wk q4 (.code New1.yN New1.yB 2 none)) (wks q4 (.initialized New1.yN.cls :: New1.site))
/-- the words ride from the start Z to the walk's own state -/
theorem moved {Z s : State} {a0 args : Array Value} (hZ : Z.Warmed39 s.vm) (hw : ∀ d ∈ words, d.before a0 Z = true) : ∀ d ∈ words, d.before args s = true := fun d hd => by
  have q := hw d hd
  have t : ∀ d ∈ words, d = .arrayClass .byte ∨ (d.onTables && d.keepsFace) = true := by decide +kernel
  rcases t d hd with rfl | t
  · exact RoadKit.mvA hZ q
  · exact RoadKit.mv hZ q t
/-- WHAT COMES BACK, over the tables of the start Z: h the heap at the call, h' behind it -/
def Q (Z : State) (x : Addr) (A : Cell) (h : Heap) (v : Option Value) (h' : Heap) (L : List Loc) : Prop := v = none ∧ (∀ y ∈ L, y.base = x) ∧ RoadKit.Keep h h' [x] ∧ h'.size = h.size + 1 ∧ RoadKit.Exa Z h' x ST ∧ RoadKit.Fld Z h' x ST "value" "[B" (.ref h.size) ∧ RoadKit.Fld Z h' x ST "coder" "B" (.int 0) ∧
  (∃ V : Cell, RoadKit.Arr Z h' h.size V .byte ∧ V.vm = .none ∧ Z.vm.findClass "[B" = some V.cls ∧ V.slots.size = A.slots.size ∧ ∀ j, j < A.slots.size → V.slots[j]? = some (.int (lo8 (cv A j)))) ∧
  ∀ (O n d : String) (w : Value), RoadKit.Fld Z h x O n d w → RoadKit.slotOf Z O n d ≠ RoadKit.slotOf Z ST "value" "[B" → RoadKit.slotOf Z O n d ≠ RoadKit.slotOf Z ST "coder" "B" → RoadKit.Fld Z h' x O n d w
/-- **new String(chars) AT A CALL, IN THE ROAD'S FORM**: for specialBack behind newO: x the fresh String, b the char[] with the cell A -/
theorem back {p : Program} {l : Launch} {e : Env} {R : Room} {s : State} {args : Array Value} {below : List Frame} {len W : Nat} {Z : State} {a0 : Array Value} {h : Heap} (hZ : Z.Warmed39 s.vm) (hw : ∀ d ∈ words, d.before a0 Z = true) {kI : Nat} (wi : (Jvm.Cond.instantiable ST kI).before a0 Z = true)
    {x b : Addr} {A : Cell} {z : Int32} {v0 c0 : Value} (E : RoadKit.Exa Z h x ST) (V : RoadKit.Fld Z h x ST "value" "[B" v0) (C : RoadKit.Fld Z h x ST "coder" "B" c0) (K : RoadKit.Arr Z h b A .char) (hty : Typed .char A) (S : RoadKit.Sta Z h ST "COMPACT_STRINGS" "Z" (.int z)) (hz : ¬ z = 0)
    (l0 : 0 < A.slots.size) (l2 : A.slots.size ≤ 536870912) (hp : ∀ i, i < A.slots.size → ¬ 255 < cv A i) (hfr : 4 ≤ R.frames) (hlo : W + 65 ≤ R.locals) :
    Back l R p e below s args New1.yN len W (fun P a => a = #[.ref x, .ref b] ∧ P.U.heap = h ∧ P.cells + 1 ≤ R.cells ∧ P.slots + A.slots.size ≤ R.slots)
      (fun P _ v B => ∃ L, Q Z x A h v B.U.heap L ∧ B.locs = P.locs ++ L ∧ B.cells = P.cells + 1 ∧ B.slots = P.slots + A.slots.size) := by
  intro m meth c P g ig mk a X hg hsize hdg hW hn hp'
  obtain ⟨rfl, rfl, r1, r2⟩ := hp'
  have al : Z.vm.Alike P.U.vm := hZ.alike.trans X.warmed.alike
  obtain ⟨D, cfV, kV, iV, fV, hD, gV, stV, knV, obV, asV, slV⟩ := id V
  obtain ⟨D', cfC, kC, iC, fC, hD', gC, stC, -, -, asC, slC⟩ := id C
  cases hD.symm.trans hD'
  obtain ⟨D2, kD, e1, e2, e3, e4, e5⟩ := id E
  cases hD.symm.trans e1
  obtain ⟨c2, k2, i1, i2, i3, -⟩ := Cond.instantiable_spec wi
  cases e2.symm.trans i1
  cases e3.symm.trans i2
  obtain ⟨kU, u1, u2⟩ := al.2.2 _ _ e3
  have hB : Blank ST x D P.U := ⟨hD, ⟨knV, fun q hq => by rw [hq] at obV; cases obV⟩, by rw [al.findClass]; exact e2, kU, u1, by rw [u2]; exact i3, by rw [u2]; exact e5 i3⟩
  have F1 : Found ST "value" "[B" fV P.U := ⟨SBG.found_only al ⟨cfV, kV, iV, gV⟩, stV⟩
  have F2 : Found ST "coder" "B" fC P.U := ⟨SBG.found_only al ⟨cfC, kC, iC, gC⟩, stC⟩
  have hA : Ch b A P.U := ⟨⟨K.1, State.isArrayOf_alike al K.2.1, K.2.2, by omega⟩, hty⟩
  have hS : StaticIs P.U ST "COMPACT_STRINGS" "Z" (.int z) := by
    obtain ⟨cfS, iS, kS, fS, st, cS, t1, t2, t3, t4, t5, t6, t7⟩ := S
    exact StaticIs.there (s := { Z with heap := P.U.heap }) ⟨cfS, iS, kS, fS, st, cS, t1, t2, t3, t4, t5, (fun q => by rw [q] at t6; cases t6), t7⟩ al rfl
  obtain ⟨v, B, X', ⟨⟨hv, E', V', q1, q2, q3, q4, q5, q6, q7, q8, q9, q10, q11⟩, hl, hc, hs⟩, st⟩ := New1.pays x D fV fC b A z (tab_of (moved hZ hw)) hfr hlo m meth c P g ig mk _ X hg hsize hdg hW hn ⟨r1, r2, rfl, hB, F1, F2, hA, hS, hz, l0, l2, hp⟩
  have al' : Z.vm.Alike B.U.vm := hZ.alike.trans X'.warmed.alike
  have hsz : E'.slots.size = D.slots.size := by
    obtain ⟨-, -, -, kB, w1, w2, w3⟩ := q1
    obtain ⟨kB', y1, y2⟩ := al'.2.2 _ _ e3
    rw [q2.2.1] at w1
    cases w1.symm.trans y1
    rw [w3, e5 i3, y2]
  refine ⟨v, B, X', ⟨_, ⟨hv, ?_, ⟨by omega, fun y cy hy hn' => q10 y cy (by simpa using hn') hy, fun y cy hy => ?_⟩, q11, ⟨E', _, q1.1, by rw [q2.2.1]; exact e2, by rw [q2.2.1]; exact e3, by rw [q2.1]; exact obV, fun _ => by rw [hsz]; exact e5 i3⟩,
    ⟨E', cfV, kV, iV, fV, q1.1, gV, stV, by rw [q2.1]; exact knV, by rw [q2.1]; exact obV, by rw [q2.2.1]; exact asV, q3⟩, ⟨E', cfC, kC, iC, fC, q1.1, gC, stC, by rw [q2.1]; exact knV, by rw [q2.1]; exact obV, by rw [q2.2.1]; exact asC, q4⟩,
    ⟨V', ⟨q5.1, State.isArrayOf_alike al'.symm q5.2.1, q5.2.2.1⟩, q6, by rw [← al'.findClass]; exact q7, q8, fun j hj => by have := q9 j hj; rwa [Nat.zero_add] at this⟩, fun O n d w F n1 n2 => ?_⟩, hl, hc, hs⟩, st⟩
  · intro y hy
    simp only [List.mem_cons, List.not_mem_nil, or_false] at hy
    rcases hy with rfl | rfl <;> rfl
  · by_cases q : y = x
    · subst q
      cases hD.symm.trans hy
      exact ⟨E', q1.1, q2.2.1, q2.1, hsz⟩
    · exact ⟨cy, q10 y cy q hy, rfl, rfl, rfl⟩
  · obtain ⟨D3, cf, k, i, f, g1, g2, g3, g4, g5, g6, g7⟩ := F
    cases hD.symm.trans g1
    simp only [RoadKit.slotOf, g2, gV, gC, Option.map_some, Option.getD_some] at n1 n2
    exact ⟨E', cf, k, i, f, q1.1, g2, g3, by rw [q2.1]; exact g4, by rw [q2.1]; exact g5, by rw [q2.2.1]; exact g6, by rw [q2.2.2 f.slot (by simp [n1, n2])]; exact g7⟩
end StrChars.Road
namespace StrChars.Road
open Jvm Sem ClassFile Op Lib Jvm.Stand Jvm.Free Jvm.Free.XT
/-- WHAT COMES BACK, the byte[] as a list of values -/
def QA (Z : State) (x : Addr) (zn : Int32) (cs : List Int32) (h : Heap) (v : Option Value) (h' : Heap) (L : List Loc) : Prop := v = none ∧ (∀ y ∈ L, y.base = x) ∧ RoadKit.Keep h h' [x] ∧ h'.size = h.size + 1 ∧ RoadKit.Exa Z h' x ST ∧ RoadKit.Fld Z h' x ST "value" "[B" (.ref h.size) ∧ RoadKit.Fld Z h' x ST "coder" "B" (.int 0) ∧
  (∃ kb, Z.vm.findClass "[B" = some kb ∧ RoadKit.Arv Z h' h.size kb .byte zn (cs.map fun c => .int (lo8 c)) (.int 0)) ∧
  ∀ (O n d : String) (w : Value), RoadKit.Fld Z h x O n d w → RoadKit.slotOf Z O n d ≠ RoadKit.slotOf Z ST "value" "[B" → RoadKit.slotOf Z O n d ≠ RoadKit.slotOf Z ST "coder" "B" → RoadKit.Fld Z h' x O n d w
/-- **new String(chars) AT A CALL, THE ARRAYS AS LISTS**: the char[] at b holds cs, not empty, no char above 255 -/
theorem backArv {p : Program} {l : Launch} {e : Env} {R : Room} {s : State} {args : Array Value} {below : List Frame} {len W : Nat} {Z : State} {a0 : Array Value} {h : Heap} (hZ : Z.Warmed39 s.vm) (hw : ∀ d ∈ words, d.before a0 Z = true) {kI : Nat} (wi : (Jvm.Cond.instantiable ST kI).before a0 Z = true)
    {x b : Addr} {k : ClassId} {zn z : Int32} {cs : List Int32} {dv v0 c0 : Value} (E : RoadKit.Exa Z h x ST) (V : RoadKit.Fld Z h x ST "value" "[B" v0) (C : RoadKit.Fld Z h x ST "coder" "B" c0) (K : RoadKit.Arv Z h b k .char zn (cs.map Value.int) dv) (S : RoadKit.Sta Z h ST "COMPACT_STRINGS" "Z" (.int z)) (hz : ¬ z = 0)
    (hlen : zn.toNatClampNeg = cs.length) (h0 : 0 < cs.length) (hbig : cs.length ≤ 536870912) (hall : ∀ c ∈ cs, ¬ 255 < c) (hfr : 4 ≤ R.frames) (hlo : W + 65 ≤ R.locals) :
    Back l R p e below s args New1.yN len W (fun P a => a = #[.ref x, .ref b] ∧ P.U.heap = h ∧ P.cells + 1 ≤ R.cells ∧ P.slots + cs.length ≤ R.slots)
      (fun P _ v B => ∃ L, QA Z x zn cs h v B.U.heap L ∧ B.locs = P.locs ++ L ∧ B.cells = P.cells + 1 ∧ B.slots = P.slots + cs.length) := by
  obtain ⟨A, K1, K2, K3, K4, K5, K6⟩ := K
  have e : A.slots.size = cs.length := K3.trans hlen
  have hat : ∀ (i : Nat) (hi : i < cs.length), A.slots[i]? = some (.int cs[i]) := fun i hi => by rw [K5 i (by omega)]; simp [List.getD_eq_getElem?_getD, hi]
  have hcv : ∀ (i : Nat) (hi : i < cs.length), cv A i = cs[i] := fun i hi => by unfold cv; rw [hat i hi]
  have hty : Typed .char A := fun i v hv => by
    have hi : i < A.slots.size := (Array.getElem?_eq_some_iff.mp hv).1
    have q := K5 i hi
    rw [hv] at q
    rw [Option.some.inj q]
    exact K6 i hi
  refine Back.mono (back hZ hw wi E V C K1 hty S hz (by omega) (by omega) (fun i hi => by rw [hcv i (by omega)]; exact hall _ (List.getElem_mem _)) hfr hlo) (fun P a hp => ⟨hp.1, hp.2.1, hp.2.2.1, by rw [e]; exact hp.2.2.2⟩) (fun P a v B hp hq => ?_)
  obtain ⟨L, ⟨q1, q2, q3, q4, q5, q6, q7, ⟨V', v1, v2, v3, v4, v5⟩, q9⟩, hl, hc, hs⟩ := hq
  refine ⟨L, ⟨q1, q2, q3, q4, q5, q6, q7, ⟨V'.cls, v3, V', v1, rfl, by rw [v4, e, hlen], K4, fun i hi => ?_, fun i hi => ?_⟩, q9⟩, hl, hc, by rw [hs, e]⟩
  · have hi' : i < cs.length := by omega
    rw [v5 i (by omega), hcv i hi']; simp [List.getD_eq_getElem?_getD, hi']
  · have hi' : i < cs.length := by omega
    simp only [List.getD_eq_getElem?_getD, List.getElem?_map, List.getElem?_eq_getElem hi', Option.map_some, Option.getD_some]
    exact fits_lo8 _
end StrChars.Road
namespace StrChars.Road
open Jvm Sem ClassFile Op Lib Jvm.Stand Jvm.Free Jvm.Free.XT
/-- WHAT COMES BACK, in the writer's own shape -/
def QV (Z : State) (x : Addr) (N : Int32) (bs : List Int32) (h : Heap) (n0 : Nat) (v : Option Value) (h' : Heap) (L : List Loc) : Prop := v = none ∧ RoadKit.Fr n0 L ∧ RoadKit.Keep h h' [x] ∧ RoadKit.Exa Z h' x ST ∧ RoadKit.Fld Z h' x ST "coder" "B" (.int 0) ∧
  ∃ (t : Addr) (kb : ClassId), n0 ≤ t ∧ h.size ≤ t ∧ ¬ t = x ∧ RoadKit.Fld Z h' x ST "value" "[B" (.ref t) ∧ RoadKit.Arv Z h' t kb .byte N (bs.map Value.int) (.int 0)
/-- **new String(chars) AT A CALL, FOR THE WRITER**: a char[] of n known ints, each 0 to 255 -/
theorem backV {p : Program} {l : Launch} {e : Env} {R : Room} {s : State} {args : Array Value} {below : List Frame} {len W : Nat} {Z : State} {a0 : Array Value} {h : Heap} (hZ : Z.Warmed39 s.vm) (hw : ∀ d ∈ words, d.before a0 Z = true) {kI : Nat} (wi : (Jvm.Cond.instantiable ST kI).before a0 Z = true)
    {x b : Addr} {kC : ClassId} {cs bs : List Int32} {d v0 c0 : Value} {z N : Int32} {n n0 : Nat} (hx0 : n0 ≤ x) (hh0 : n0 ≤ h.size) (E : RoadKit.Exa Z h x ST) (V : RoadKit.Fld Z h x ST "value" "[B" v0) (C : RoadKit.Fld Z h x ST "coder" "B" c0) (K : RoadKit.Arv Z h b kC .char N (cs.map Value.int) d) (S : RoadKit.Sta Z h ST "COMPACT_STRINGS" "Z" (.int z)) (hz : ¬ z = 0)
    (hn : cs.length = n) (hN : N = Int32.ofNat n) (l0 : 0 < n) (l2 : n ≤ 4000) (hp : ∀ c ∈ cs, ¬ c < 0 ∧ ¬ (255 : Int32) < c) (hb : bs = cs.map (fun c => c.toInt8.toInt32)) (hfr : 4 ≤ R.frames) (hlo : W + 65 ≤ R.locals) :
    Back l R p e below s args (⟨"java/lang/String", "<init>", "([C)V"⟩ : MethodName) len W (fun P a => a = #[.ref x, .ref b] ∧ P.U.heap = h ∧ P.cells + 1 ≤ R.cells ∧ P.slots + n ≤ R.slots)
      (fun P _ v B => ∃ L, QV Z x N bs h n0 v B.U.heap L ∧ B.locs = P.locs ++ L ∧ B.cells = P.cells + 1 ∧ B.slots = P.slots + n) := by
  subst hn hN hb
  refine Back.mono (backArv hZ hw wi E V C K S hz (n32 (by omega)) l0 (by omega) (fun c hc => (hp c hc).2) hfr hlo) (fun P a hp => hp) (fun P a v B hp hq => ?_)
  obtain ⟨L, ⟨q1, q2, q3, q4, q5, q6, q7, ⟨kb, v1, v2⟩, q9⟩, hl, hc, hs⟩ := hq
  exact ⟨L, ⟨q1, fun y hy => by rw [q2 y hy]; exact hx0, q3, q5, q7, h.size, kb, hh0, Nat.le_refl _, Nat.ne_of_gt E.lt, q6, by rw [List.map_map]; exact v2⟩, hl, hc, hs⟩
end StrChars.Road
end Jvm.Pilot.@@N@@
namespace Jvm.Pilot.@@N@@
open Jvm Jvm.ClassFile Sem Op Lib Jvm.Free Jvm.Stand Jvm.LawKit Jvm.RoadKit Bundle Jvm.Pilot.@@N@@.Jvm.D
section OwnKit
variable {p : Program} {l : Launch} {e : Env} {R : Room} {s : State} {m : MethodId} {args : Array Value} {below : List Frame} {meth : Method} {c : Code} {T : State} {locs : List Loc} {cells slots : Nat}
def own_Goes (p : Program) (e : Env) (below : List Frame) (U : State) (Q : Outcome → State → Prop) : Prop := ∃ (t : State) (o : Outcome), Steps p.tables e below U t ∧ t.status = .running ∧ Ended t below o ∧ Q o t
theorem own_go {U U' : State} {Q : Outcome → State → Prop} (k : ∀ t, Steps p.tables e below U' t → Steps p.tables e below U t) (h : own_Goes p e below U' Q) : own_Goes p e below U Q := by
  obtain ⟨t, o, h1, h2⟩ := h
  exact ⟨t, o, k t h1, h2⟩
theorem own_goS {U U' : State} {Q : Outcome → State → Prop} (k : Steps p.tables e below U U') (h : own_Goes p e below U' Q) : own_Goes p e below U Q := own_go (fun t h => k.trans h) h
theorem own_cast {g g' : JFrame} {Q : Outcome → State → Prop} (q : g = g') (h : own_Goes p e below (T.setTop g') Q) : own_Goes p e below (T.setTop g) Q := q ▸ h
def own_PostN (s : State) (Qc : Option Value → Heap → List Loc → Prop) (k n : Nat) : Outcome → State → Prop := fun o t => ∃ v L, o = .returned v ∧ Qc v t.heap L ∧ FrameEnd s o t L k n
def own_PostW (s : State) (Qc : Option Value → Heap → List Loc → Prop) (k n : Nat) : Outcome → State → Prop := fun o t => ∃ v L, o = .returned v ∧ Qc v t.heap L ∧ ReturnedEndW s o t L k n
theorem own_endN (X : Stand p l e R s m args below meth c T locs cells slots) {v : Option Value} (hv : meth.sig.returnType = none → v = none) (hlocks : meth.locks = false) {Qc : Option Value → Heap → List Loc → Prop} {k n : Nat} (hk : cells ≤ k) (hn : slots ≤ n) (hQ : Qc v T.heap locs) {U : State}
    (st : ∀ fs, (∀ (f : JFrame) (acts : List Action), f.method = m → f.locked = none → f.entered = [] → (doReturn e (T.setTop f) acts v).1 = T.setFrames fs) → Steps p.tables e below U (T.setFrames fs)) : own_Goes p e below U (own_PostN s Qc k n) := by
  obtain ⟨fs, hr, hrun, hended, hW, hsame⟩ := X.leave hv hlocks
  exact ⟨_, _, st fs hr, hrun, hended, _, _, rfl, hQ, ⟨_, rfl⟩, hW, hsame.mono hk hn⟩
theorem own_endW {vm0 : Vm} (X : Stand p l e R (s.setVm vm0) m args below meth c T locs cells slots) {q : Nat} (hS : s.Since vm0 q) (hq : q ≤ T.heap.size) {v : Option Value} (hv : meth.sig.returnType = none → v = none) (hlocks : meth.locks = false) {Qc : Option Value → Heap → List Loc → Prop} {k n : Nat} (hk : cells ≤ k) (hn : slots ≤ n) (hQ : Qc v T.heap locs) {U : State}
    (st : ∀ fs, (∀ (f : JFrame) (acts : List Action), f.method = m → f.locked = none → f.entered = [] → (doReturn e (T.setTop f) acts v).1 = T.setFrames fs) → Steps p.tables e below U (T.setFrames fs)) : own_Goes p e below U (own_PostW s Qc k n) := by
  obtain ⟨fs, hr, hrun, hended, h1, h2, h3, h4⟩ := X.leaveW hS hq hv hlocks
  exact ⟨_, _, st fs hr, hrun, hended, _, _, rfl, hQ, h1, h2, h3, h4.mono hk hn⟩
def own_PostH (Z : State) (EL : List (String × Nat)) (s : State) (Qc : Option Value → Heap → List Loc → Prop) (k n : Nat) : Outcome → State → Prop := fun o t => ∃ v L, o = .returned v ∧ Qc v t.heap L ∧ CHr Z EL s.vm s.heap t.vm t.heap ∧ ReturnedEndW s o t L k n
theorem own_endH {Z : State} {a0 : Array Value} {EL : List (String × Nat)} {h0 h : Heap} {vm0 : Vm} (X : Stand p l e R (s.setVm vm0) m args below meth c T locs cells slots) {q : Nat} (hS : s.Since vm0 q) (hq : q ≤ T.heap.size) (eT : T.heap = h) (hh : s.heap = h0) (CR : CHr Z EL s.vm h0 vm0 h) (hZ : Z.Warmed39 vm0) (w : EW Z a0 EL) {v : Option Value} (hv : meth.sig.returnType = none → v = none) (hlocks : meth.locks = false) {Qc : Option Value → Heap → List Loc → Prop} {k n : Nat} (hk : cells ≤ k) (hn : slots ≤ n) (hQ : Qc v T.heap locs) {U : State}
    (st : ∀ fs, (∀ (f : JFrame) (acts : List Action), f.method = m → f.locked = none → f.entered = [] → (doReturn e (T.setTop f) acts v).1 = T.setFrames fs) → Steps p.tables e below U (T.setFrames fs)) : own_Goes p e below U (own_PostH Z EL s Qc k n) := by
  obtain ⟨fs, hr, hrun, hended, h1, h2, h3, h4⟩ := X.leaveW hS hq hv hlocks
  subst eT hh
  exact ⟨_, _, st fs hr, hrun, hended, _, _, rfl, hQ, (CHr.trans CR (CHv.at X hZ w CR.1) : CHr Z EL s.vm s.heap T.vm T.heap), h1, h2, h3, h4.mono hk hn⟩
theorem own_neor {x a b : Nat} (h : x ≠ a ∧ x ≠ b) : (x < a ∨ a < x) ∧ (x < b ∨ b < x) := ⟨Nat.lt_or_gt_of_ne h.1, Nat.lt_or_gt_of_ne h.2⟩
theorem own_safeNull {Z : State} {EL : List (String × Nat)} {vm : Vm} {h : Heap} {x : Addr} (hal : Z.vm.Alike vm) (E : Exa Z h x "java/lang/String") (F : Fld Z h x "java/lang/String" "value" "[B" .null) : Safe Z EL vm h x := fun B => by
  obtain ⟨pp, -, u, a, -, q, -, FF, rfl | rfl⟩ := B
  · have ha := FF.ha
    obtain ⟨cS, ⟨⟨-, -, -, ⟨c1, k1, i1, f1, -⟩, -, -, -, v1, -⟩, -⟩, -⟩ := FF
    obtain ⟨cell, cf, k, i, f, h1, h2, -, -, -, -, h7⟩ := F
    cases (show h[q.sa]? = some q.sC from ha).symm.trans h1
    obtain ⟨k3, e3, -⟩ := State.fieldFound?_setVm (s := Z) hal h2
    have e4 := (show (Wst Z vm h).fieldFound? "java/lang/String" "value" "[B" = _ from e3).symm.trans f1
    simp only [Option.some.injEq, Prod.mk.injEq] at e4
    rw [← e4.2.2.2, h7] at v1
    cases v1
  · have hd := FF.hd
    obtain ⟨cS, ⟨⟨-, -, -, -, -, -, -, -, -, -, ⟨-, kB, hkB, compB, hkindB⟩, -⟩, -, -⟩, ⟨kS, g1, g2, -⟩, hB, -⟩ := FF
    obtain ⟨cell, k, e1, e2, e3, -, -⟩ := E
    cases (show h[q.sd]? = some q.SA from hd).symm.trans e1
    have e2' : vm.findClass "java/lang/String" = some q.SA.cls := by rw [hal.findClass]; exact e2
    obtain ⟨ka, qa, na⟩ := Vm.findClass_spec e2'
    obtain ⟨kb, qb, nb⟩ := Vm.findClass_spec (show vm.findClass "[B" = some q.SA.cls from hB)
    cases qa.symm.trans qb
    exact absurd (na.symm.trans nb) (by decide)
theorem own_mvM {Z s : State} {a0 args : Array Value} {own host : String} {y : MethodName} {index : Nat} (hZ : Z.Warmed39 s.vm) (w : (Cond.methodLinkNest own index y host).before a0 Z = true) : (Cond.methodLinkNest own index y host).before args s = true := (Cond.methodLinkNest_wide hZ w :)
theorem own_ne {a b : Nat} (h : a < b ∨ b < a) : a ≠ b := by omega
theorem own_NSroot {Z : State} {a0 : Array Value} {O K : String} {n : Nat} (w : (Cond.noSuperclass O).before a0 Z = true) (wk : (Cond.instantiable K n).before a0 Z = true) (hn : O ≠ K) : NS Z O K := by
  obtain ⟨c, k, h1, h2, h3, -, -⟩ := Cond.noSuperclass_spec w
  obtain ⟨t, kt, g1, -⟩ := Cond.instantiable_spec wk
  have ne := ids_ne h1 g1 hn
  refine ⟨c, t, h1, g1, fun fuel => ?_⟩
  cases fuel with
  | zero => rfl
  | succ f => simp [Vm.isSubclassAux, ne, h2, h3]
theorem own_NSno {Z : State} {a0 : Array Value} {C S K : String} {m : Nat} (w : (Cond.superclass C S).before a0 Z = true) (wk : (Cond.instantiable K m).before a0 Z = true) (n : NS Z C K) (hn : C ≠ K) : ∃ c t, Z.vm.findClass C = some c ∧ Z.vm.findClass K = some t ∧ Z.vm.assignable c t = false := by
  obtain ⟨c, t, h0, g0, n3⟩ := n
  obtain ⟨p, k, kp, h1, h2, h3, h4, h5, -, h7⟩ := Cond.superclass_spec h0 w
  obtain ⟨t', k', g1, g2, g5, g7, -⟩ := Cond.instantiable_spec wk
  cases g0.symm.trans g1
  have g8 : k'.isInterface = false := (Bool.or_eq_false_iff.mp g7).1
  have ne := ids_ne h0 g0 hn
  refine ⟨c, t, h0, g0, ?_⟩
  show Z.vm.assignableAux (255 + 1) c t = false
  simp [Vm.assignableAux, ne, h2, g2, h5, g5, g8, Vm.isSubclass, n3]
theorem own_fitsR {v : Value} {t : FieldType} (h : v.isRef = true) (ht : t.isReference = true) : fits t v = true := by
  cases v <;> cases t <;> simp_all [Value.isRef, fits, FieldType.isReference]
theorem own_narR {v : Value} {t : FieldType} (h : v.isRef = true) (ht : t.isReference = true) : narrow t v = v := by
  cases v <;> cases t <;> simp_all [Value.isRef, narrow, FieldType.isReference]
end OwnKit
theorem own_sta {s : State} {args : Array Value} {C n d K : String} (h : (Cond.exactly (Term.static C n d) K).value args s none s [] = some true) (w1 : (Cond.initialized C).before args s = true) (w2 : (Cond.laysStatic C n d).before args s = true) : ∃ w, Sta s s.heap C n d (.ref w) ∧ Exa s s.heap w K := by
  obtain ⟨w, ev⟩ := exa_v h
  exact ⟨w, Sta.start ev (Or.inr ⟨w1, w2⟩), Exa.start ev h⟩
def GG (Z : State) (gz : Int32) (gwE : Addr) (gwO : Addr) (gwA : Addr) (gk : ClassId) : Prop := Sta Z Z.heap "java/lang/String" "COMPACT_STRINGS" "Z" (.int gz) ∧ ¬ gz = (0 : Int32) ∧ Sta Z Z.heap "java/util/ImmutableCollections" "EMPTY_LIST" "Ljava/util/ImmutableCollections$ListN;" (.ref gwE) ∧ Exa Z Z.heap gwE "java/util/ImmutableCollections$ListN" ∧ Sta Z Z.heap "java/util/ImmutableCollections" "EMPTY" "Ljava/lang/Object;" (.ref gwO) ∧ Exa Z Z.heap gwO "java/lang/Object" ∧ Fld Z Z.heap gwE "java/util/ImmutableCollections$ListN" "elements" "[Ljava/lang/Object;" (.ref gwA) ∧ Arv Z Z.heap gwA gk (.object "java/lang/Object") (0 : Int32) [] .null
theorem own_strs {Z : State} {a0 : Array Value} (hw : ∀ d ∈ tables_1, d.before a0 Z = true) : ∀ a ∈ Bundle.stringAtoms, a.before a0 Z = true := by
  intro a ha
  simp only [Bundle.stringAtoms, List.mem_cons, List.not_mem_nil, or_false] at ha
  rcases ha with rfl | rfl | rfl | rfl | rfl | rfl | rfl
  · exact (hw _ (List.mem_of_getElem? (i := 6) rfl))
  · exact (hw _ (List.mem_of_getElem? (i := 5) rfl))
  · exact (hw _ (List.mem_of_getElem? (i := 23) rfl))
  · exact (hw _ (List.mem_of_getElem? (i := 33) rfl))
  · exact (hw _ (List.mem_of_getElem? (i := 31) rfl))
  · exact (hw _ (List.mem_of_getElem? (i := 81) rfl))
  · exact (hw _ (List.mem_of_getElem? (i := 82) rfl))
theorem own_EW {Z : State} {a0 : Array Value} (hw : ∀ d ∈ tables_1, d.before a0 Z = true) : EW Z a0 consts_1 := (EW.cons (hw _ (List.mem_of_getElem? (i := 80) rfl)) (by decide) EW.nil)
theorem own_len {s : State} {args : Array Value} {t : Term} {w : Addr} {cl : Cell} {ty : FieldType} {n : Int32} (ev : t.eval args s none [] s = some (.ref w)) (A : Arr s s.heap w cl ty) (l : (Term.length t).eval args s none [] s = some (.int n)) : cl.slots.size.toInt32 = n ∧ cl.slots.size < 2 ^ 31 := by
  have ha : s.arrayAt? w = some cl := A.fin (Vm.Alike.refl _)
  by_cases hl : cl.slots.size < 2 ^ 31
  · exact ⟨Value.int.inj (Option.some.inj ((len_f ev ha hl).symm.trans l)), hl⟩
  · simp [Term.eval, ev, ha, hl] at l
theorem own_sub {s : State} {args : Array Value} {t : Term} {idx : List Nat} {j n : Int32} (e : t.eval args s none idx s = some (.int j)) : (Term.sub t (.int n)).eval args s none idx s = some (.int (j - n)) := by
  simp [Term.eval, e]
theorem own_fldNull {s : State} {args : Array Value} {t : Term} {C n d : String} {w : Addr} (ev : t.eval args s none [] s = some (.ref w)) (h : (Cond.eq (Term.field t C n d) .null).value args s none s [] = some true) : Fld s s.heap w C n d .null := Fld.start ((fld_at ev).symm.trans (null_v h))

theorem own_narM (x : Int32) : nar .char (x &&& (255 : Int32)) = (x &&& (255 : Int32)) := i2c_mask x
theorem own_ch255 (x : Int32) : ¬ (x &&& (255 : Int32)) < 0 ∧ ¬ (255 : Int32) < (x &&& (255 : Int32)) := by
  have q := c_and x 255 (by decide)
  have e0 : (0 : Int32).toInt = 0 := by decide
  have e1 : (255 : Int32).toInt = 255 := by decide
  rw [Int32.lt_iff_toInt_lt, Int32.lt_iff_toInt_lt]
  omega
theorem own_wV {Z : State} {a0 : Array Value} (hw : ∀ d ∈ tables_1, d.before a0 Z = true) : ∀ d ∈ StrChars.Road.words, d.before a0 Z = true := fun d hd => hw d ((by decide +kernel : ∀ d ∈ StrChars.Road.words, d ∈ tables_1) d hd)

theorem own_d3_0 : decode jdk_42_method_149_code 0 = .ok (.aload_n 0, 1) := by decide +kernel
theorem own_d3_1 : decode jdk_42_method_149_code 1 = .ok (.invokespecial 1, 3) := by decide +kernel
theorem own_d3_4 : decode jdk_42_method_149_code 4 = .ok (.iload_n 3, 1) := by decide +kernel
theorem own_d3_5 : decode jdk_42_method_149_code 5 = .ok (.ifCond .ne 22, 3) := by decide +kernel
theorem own_d3_8 : decode jdk_42_method_149_code 8 = .ok (.aload_n 0, 1) := by decide +kernel
theorem own_d3_9 : decode jdk_42_method_149_code 9 = .ok (.ldc 7, 2) := by decide +kernel
theorem own_d3_11 : decode jdk_42_method_149_code 11 = .ok (.getfield 9, 3) := by decide +kernel
theorem own_d3_14 : decode jdk_42_method_149_code 14 = .ok (.putfield 9, 3) := by decide +kernel
theorem own_d3_17 : decode jdk_42_method_149_code 17 = .ok (.aload_n 0, 1) := by decide +kernel
theorem own_d3_18 : decode jdk_42_method_149_code 18 = .ok (.ldc 7, 2) := by decide +kernel
theorem own_d3_20 : decode jdk_42_method_149_code 20 = .ok (.getfield 15, 3) := by decide +kernel
theorem own_d3_23 : decode jdk_42_method_149_code 23 = .ok (.putfield 15, 3) := by decide +kernel
theorem own_d3_26 : decode jdk_42_method_149_code 26 = .ok (.return_, 1) := by decide +kernel
theorem own_pn_java_lang_String : plainName "java/lang/String" = true := by first | (simp [plainName, overriddenIn]; done) | decide +kernel
theorem own_ef_own_strInit0v (m : MethodId) (xa : Addr) (xc : Addr) : entryFrame m #[(.ref xa), (.ref xc), (.int (0 : Int32)), (.int (0 : Int32)), .null] 6 = mkF m 0 #[.val (.ref xa), .val (.ref xc), .val (.int (0 : Int32)), .val (.int (0 : Int32)), .val .null, .unset] [] := by first | (simp [entryFrame, mkF, argsToLocals, Value.category]; done) | rfl
def Q_own_strInit0v (Z : State) (xa : Addr) (xc : Addr) (h0 : Heap) (n0 : Nat) (v : Option Value) (h : Heap) (L : List Loc) : Prop := Fr n0 L ∧ Keep h0 h [xa] ∧ ∃ (rb : Addr), ∃ (rk : ClassId), v = none ∧ Exa Z h xa "java/lang/String" ∧ Fld Z h xa "java/lang/String" "value" "[B" (.ref rb) ∧ Fld Z h xa "java/lang/String" "coder" "B" (.int (0 : Int32)) ∧ Arv Z h rb rk .byte (0 : Int32) [] (.int (0 : Int32))
set_option maxRecDepth 65536 in
set_option maxHeartbeats 40000000 in
theorem own_strInit0v (l : Launch) (Z : State) (a0 : Array Value) (hw : ∀ d ∈ tables_1, d.before a0 Z = true) (ws : List Jvm.Cond) (xa : Addr) (xc : Addr) (h0 : Heap) (n0 : Nat) (O0 : Old Z n0 h0) (P0 : Exa Z h0 xa "java/lang/String") (P1 : Fld Z h0 xa "java/lang/String" "value" "[B" .null) (P2 : Fld Z h0 xa "java/lang/String" "coder" "B" (.int (0 : Int32))) (P3 : n0 ≤ xa) :
    MetFree l (⟨"java/lang/String", "<init>", "([CIILjava/lang/Void;)V"⟩ : MethodName) (head1 (Jvm.Cond.code (⟨"java/lang/String", "<init>", "([CIILjava/lang/Void;)V"⟩ : MethodName) jdk_42_method_149_code 6 none :: ws) ({ frames := 1, cells := 4, slots := 8, locals := 12 } : Room)) (fun as_ U_ => as_ = #[(.ref xa), (.ref xc), (.int (0 : Int32)), (.int (0 : Int32)), .null] ∧ Z.Warmed39 U_.vm ∧ U_.heap = h0 ∧ CHv Z consts_1 U_.vm h0) (fun _ _ _ _ _ => True) (fun _ U_ o_ U2_ => ∃ v_ L_, o_ = .returned v_ ∧ Q_own_strInit0v Z xa xc h0 n0 v_ U2_.heap L_ ∧ CHr Z consts_1 U_.vm U_.heap U2_.vm U2_.heap ∧ ReturnedEndW U_ o_ U2_ L_ ({ frames := 1, cells := 4, slots := 8, locals := 12 } : Room).cells ({ frames := 1, cells := 4, slots := 8, locals := 12 } : Room).slots) := by
  refine MetFree.of_bodySF (plainFor_of_name own_pn_java_lang_String) hisR ?_
  intro p e s m args below meth c s₁ Bd hml0 hP hK
  obtain ⟨rfl, hZ, hh, hC0⟩ := hP
  have hx := Bd.exec
  have hby := Bd.bytes
  have hml : c.maxLocals = 6 := hml0
  have hown : s.vm.findClass "java/lang/String" = some m.cls := findClass_of_methodNamed Bd.named
  have hnm := (name_of_methodNamed Bd.named Bd.method).1
  have hlk : meth.locks = false := Bd.notSynchronized
  have hret := Bd.returns
  have X0 : Stand p l e ({ frames := 1, cells := 4, slots := 8, locals := 12 } : Room) s m #[(.ref xa), (.ref xc), (.int (0 : Int32)), (.int (0 : Int32)), .null] below meth c s₁ [] 0 0 := Stand.of_body Bd
  have e0 : s₁.heap = h0 := by rw [← hh, Bd.state]; rfl
  have N0 := Fr.nil n0
  have z0 : Z.heap.size = n0 := O0.1
  have z1 : n0 ≤ h0.size := z0 ▸ O0.2.1
  have K0 : Keep h0 h0 [xa] := Keep.refl _ _
  have hS0 : s.Since s.vm 0 := (State.WarmedH.refl s).since 0
  have hk0 : 0 ≤ h0.size := Nat.zero_le _
  replace X0 : Stand p l e ({ frames := 1, cells := 4, slots := 8, locals := 12 } : Room) (s.setVm s.vm) m #[(.ref xa), (.ref xc), (.int (0 : Int32)), (.int (0 : Int32)), .null] below meth c s₁ [] 0 0 := X0
  have CR0 := CHr.refl hC0
  show own_Goes p e below (s₁.setTop (entryFrame m #[(.ref xa), (.ref xc), (.int (0 : Int32)), (.int (0 : Int32)), .null] 6)) (own_PostH Z consts_1 s (Q_own_strInit0v Z xa xc h0 n0) ({ frames := 1, cells := 4, slots := 8, locals := 12 } : Room).cells ({ frames := 1, cells := 4, slots := 8, locals := 12 } : Room).slots)
  refine own_cast (own_ef_own_strInit0v m xa xc) ?_
  show own_Goes p e below (s₁.setTop (mkF m 0 #[.val (.ref xa), .val (.ref xc), .val (.int (0 : Int32)), .val (.int (0 : Int32)), .val .null, .unset] [])) _
  have ltP0 : @LT.lt Nat _ xa h0.size := P0.lt
  refine own_go (fun t_ k_ => XS.aloadN X0.here hx rfl (hb hby own_d3_0) rfl rfl k_) ?_
  show own_Goes p e below (s₁.setTop (mkF m 1 #[.val (.ref xa), .val (.ref xc), .val (.int (0 : Int32)), .val (.int (0 : Int32)), .val .null, .unset] [(.ref xa)])) _
  obtain ⟨T1, X1, e1, st1⟩ := initO X0 hx hZ hown (hw _ (List.mem_of_getElem? (i := 15) rfl)) (hw _ (List.mem_of_getElem? (i := 16) rfl)) (hw _ (List.mem_of_getElem? (i := 17) rfl)) e0 (g := (mkF m 1 #[.val (.ref xa), .val (.ref xc), .val (.int (0 : Int32)), .val (.int (0 : Int32)), .val .null, .unset] [(.ref xa)])) rfl (by rw [hml]; rfl) rfl (hb hby own_d3_1) (by decide) (W := 0) (by show 2 * 0 + _ ≤ _; exact Nat.le_of_eq rfl) (by decide)
  refine own_go st1 ?_
  show own_Goes p e below (T1.setTop (mkF m 4 #[.val (.ref xa), .val (.ref xc), .val (.int (0 : Int32)), .val (.int (0 : Int32)), .val .null, .unset] [])) _
  refine own_go (fun t_ k_ => XS.iloadN X1.here hx rfl (hb hby own_d3_4) rfl k_) ?_
  show own_Goes p e below (T1.setTop (mkF m 5 #[.val (.ref xa), .val (.ref xc), .val (.int (0 : Int32)), .val (.int (0 : Int32)), .val .null, .unset] [(.int (0 : Int32))])) _
  refine own_go (fun t_ k_ => XS.ifNo X1.here hx rfl (hb hby own_d3_5) rfl ((if0 _ _).trans (teq (show ((0 : Int32) = (0 : Int32)) from by decide)).2) k_) ?_
  show own_Goes p e below (T1.setTop (mkF m 8 #[.val (.ref xa), .val (.ref xc), .val (.int (0 : Int32)), .val (.int (0 : Int32)), .val .null, .unset] [])) _
  refine own_go (fun t_ k_ => XS.aloadN X1.here hx rfl (hb hby own_d3_8) rfl rfl k_) ?_
  show own_Goes p e below (T1.setTop (mkF m 9 #[.val (.ref xa), .val (.ref xc), .val (.int (0 : Int32)), .val (.int (0 : Int32)), .val .null, .unset] [(.ref xa)])) _
  have SF3 : Safe Z consts_1 _ h0 xa := own_safeNull hZ.alike P0 P1
  obtain ⟨a2, T2, h2, k2, bb2, kb2, X2, e2, E2, hS2, hk2, hZ2, hown2, Es2, Cs2, Vs2, As2, la2, lb2, cs2, -, ns2, st2⟩ := ldcCH (s := s) (vm0 := s.vm) X1 hx hZ hown (hw _ (List.mem_of_getElem? (i := 80) rfl)) (own_strs hw) e1 hS0 hk0 (own_EW hw) (List.mem_of_getElem? (i := 0) rfl) CR0.1 (vs := []) (z := (0 : Int32)) ⟨by decide, by first | rfl | decide⟩ (by decide) rfl (g := (mkF m 9 #[.val (.ref xa), .val (.ref xc), .val (.int (0 : Int32)), .val (.int (0 : Int32)), .val .null, .unset] [(.ref xa)])) rfl (hb hby own_d3_9) (n := 0) (by decide) (by decide) (by decide) (by decide)
  refine own_go st2 ?_
  have O4 := O0.ext E2
  have sz5 : h0.size ≤ h2.size := E2.1
  have CR6 := CHr.trans CR0 cs2
  have SF7 := CHr.safe cs2 (show @LT.lt Nat _ xa h0.size by omega) SF3
  have K8 := K0.ext E2
  have nn9 := own_neor (ns2 xa SF7)
  show own_Goes p e below (T2.setTop (mkF m 11 #[.val (.ref xa), .val (.ref xc), .val (.int (0 : Int32)), .val (.int (0 : Int32)), .val .null, .unset] [(.ref a2), (.ref xa)])) _
  obtain ⟨T10, X10, e10, st10⟩ := getF X2 hx hZ2 hown2 (host := "") (Or.inl (hw _ (List.mem_of_getElem? (i := 32) rfl))) Via.refl e2 Vs2 (g := (mkF m 11 #[.val (.ref xa), .val (.ref xc), .val (.int (0 : Int32)), .val (.int (0 : Int32)), .val .null, .unset] [(.ref a2), (.ref xa)])) rfl rfl (hb hby own_d3_11)
  refine own_go st10 ?_
  show own_Goes p e below (T10.setTop (mkF m 14 #[.val (.ref xa), .val (.ref xc), .val (.int (0 : Int32)), .val (.int (0 : Int32)), .val .null, .unset] [(.ref bb2), (.ref xa)])) _
  have f11 := (P1.ext E2)
  have f12 := (P0.ext E2)
  obtain ⟨T13, h13, X13, e13, W13, st13⟩ := putF X10 hx hZ2 hown2 (host := "") (Or.inl (hw _ (List.mem_of_getElem? (i := 32) rfl))) Via.refl e10 f11 f12 (Or.inr ⟨(hw _ (List.mem_of_getElem? (i := 33) rfl)), rfl, hnm⟩) (hw _ (List.mem_of_getElem? (i := 5) rfl)) (ty := (.array .byte)) (by decide) rfl rfl (g := (mkF m 14 #[.val (.ref xa), .val (.ref xc), .val (.int (0 : Int32)), .val (.int (0 : Int32)), .val .null, .unset] [(.ref bb2), (.ref xa)])) rfl rfl (hb hby own_d3_14)
  refine own_go st13 ?_
  have O14 := O4.wr W13 (show n0 ≤ xa by omega)
  have sz15 : h13.size = h2.size := Wr.size W13
  have cs16 := CHr.wr W13 SF7 CR6.1
  have CR17 := CHr.trans CR6 cs16
  have SF18 := CHr.safe cs16 (show @LT.lt Nat _ xa h2.size by omega) SF7
  have hk19 := Nat.le_trans hk2 (Nat.le_of_eq (Wr.size W13).symm)
  have K20 := K8.wr W13 (Or.inl (List.mem_of_getElem? (i := 0) rfl))
  have N13 := Fr.snoc X13 N0 (show n0 ≤ xa by omega)
  have Fw13 := f11.same W13
  show own_Goes p e below (T13.setTop (mkF m 17 #[.val (.ref xa), .val (.ref xc), .val (.int (0 : Int32)), .val (.int (0 : Int32)), .val .null, .unset] [])) _
  refine own_go (fun t_ k_ => XS.aloadN X13.here hx rfl (hb hby own_d3_17) rfl rfl k_) ?_
  show own_Goes p e below (T13.setTop (mkF m 18 #[.val (.ref xa), .val (.ref xc), .val (.int (0 : Int32)), .val (.int (0 : Int32)), .val .null, .unset] [(.ref xa)])) _
  obtain ⟨a21, T21, h21, k21, bb21, kb21, X21, e21, E21, hS21, hk21, hZ21, hown21, Es21, Cs21, Vs21, As21, la21, lb21, cs21, -, ns21, st21⟩ := ldcCH (s := s) (vm0 := T2.vm) X13 hx hZ2 hown2 (hw _ (List.mem_of_getElem? (i := 80) rfl)) (own_strs hw) e13 hS2 hk19 (own_EW hw) (List.mem_of_getElem? (i := 0) rfl) CR17.1 (vs := []) (z := (0 : Int32)) ⟨by decide, by first | rfl | decide⟩ (by decide) rfl (g := (mkF m 18 #[.val (.ref xa), .val (.ref xc), .val (.int (0 : Int32)), .val (.int (0 : Int32)), .val .null, .unset] [(.ref xa)])) rfl (hb hby own_d3_18) (n := 0) (by decide) (by decide) (by decide) (by decide)
  refine own_go st21 ?_
  have O22 := O14.ext E21
  have sz23 : h13.size ≤ h21.size := E21.1
  have CR24 := CHr.trans CR17 cs21
  have SF25 := CHr.safe cs21 (show @LT.lt Nat _ xa h13.size by omega) SF18
  have K26 := K20.ext E21
  have nn27 := own_neor (ns21 xa SF25)
  show own_Goes p e below (T21.setTop (mkF m 20 #[.val (.ref xa), .val (.ref xc), .val (.int (0 : Int32)), .val (.int (0 : Int32)), .val .null, .unset] [(.ref a21), (.ref xa)])) _
  obtain ⟨T28, X28, e28, st28⟩ := getF X21 hx hZ21 hown21 (host := "") (Or.inl (hw _ (List.mem_of_getElem? (i := 30) rfl))) Via.refl e21 Cs21 (g := (mkF m 20 #[.val (.ref xa), .val (.ref xc), .val (.int (0 : Int32)), .val (.int (0 : Int32)), .val .null, .unset] [(.ref a21), (.ref xa)])) rfl rfl (hb hby own_d3_20)
  refine own_go st28 ?_
  show own_Goes p e below (T28.setTop (mkF m 23 #[.val (.ref xa), .val (.ref xc), .val (.int (0 : Int32)), .val (.int (0 : Int32)), .val .null, .unset] [(.int (0 : Int32)), (.ref xa)])) _
  have f29 := (((P2.ext E2).other W13 (Or.inr (slot_ne (Or.inr (hw _ (List.mem_of_getElem? (i := 31) rfl))) (Or.inr (hw _ (List.mem_of_getElem? (i := 33) rfl))) (by decide) (t := .byte) (t' := (.array .byte)) (by decide) (by decide)))).ext E21)
  have f30 := ((f12.wr W13).ext E21)
  obtain ⟨T31, h31, X31, e31, W31, st31⟩ := putFN X28 hx hZ21 hown21 (hw _ (List.mem_of_getElem? (i := 30) rfl)) Via.refl e28 f29 f30 (Or.inr ⟨(hw _ (List.mem_of_getElem? (i := 31) rfl)), rfl, hnm⟩) (hw _ (List.mem_of_getElem? (i := 5) rfl)) (ty := .byte) (v' := (.int (0 : Int32))) (by decide) rfl rfl (g := (mkF m 23 #[.val (.ref xa), .val (.ref xc), .val (.int (0 : Int32)), .val (.int (0 : Int32)), .val .null, .unset] [(.int (0 : Int32)), (.ref xa)])) rfl rfl (hb hby own_d3_23)
  refine own_go st31 ?_
  have O32 := O22.wr W31 (show n0 ≤ xa by omega)
  have sz33 : h31.size = h21.size := Wr.size W31
  have cs34 := CHr.wr W31 SF25 CR24.1
  have CR35 := CHr.trans CR24 cs34
  have SF36 := CHr.safe cs34 (show @LT.lt Nat _ xa h21.size by omega) SF25
  have hk37 := Nat.le_trans hk21 (Nat.le_of_eq (Wr.size W31).symm)
  have K38 := K26.wr W31 (Or.inl (List.mem_of_getElem? (i := 0) rfl))
  have N31 := Fr.snoc X31 N13 (show n0 ≤ xa by omega)
  have Fw31 := f29.same W31
  show own_Goes p e below (T31.setTop (mkF m 26 #[.val (.ref xa), .val (.ref xc), .val (.int (0 : Int32)), .val (.int (0 : Int32)), .val .null, .unset] [])) _
  refine own_endH X31 hS21 (show _ ≤ T31.heap.size by rw [e31]; exact hk37) e31 hh CR35 hZ21 (own_EW hw) (v := none) (fun _ => rfl) hlk (by decide) (by decide) ?_ (fun fs hr => X31.returnOut hx hret (hb hby own_d3_26) hr)
  show Q_own_strInit0v Z xa xc h0 n0 _ T31.heap _
  rw [e31]
  have f39 := (f30.wr W31)
  have f40 := ((Fw13.ext E21).other W31 (Or.inr (slot_ne (Or.inr (hw _ (List.mem_of_getElem? (i := 33) rfl))) (Or.inr (hw _ (List.mem_of_getElem? (i := 31) rfl))) (by decide) (t := (.array .byte)) (t' := .byte) (by decide) (by decide))))
  have f41 := (((As2.other W13 (own_ne (a := bb2) (b := xa) (by omega))).ext E21).other W31 (own_ne (a := bb2) (b := xa) (by omega)))
  exact ⟨N31, K38, bb2, kb2, rfl, f39, f40, Fw31, f41⟩
theorem own_d2_0 : decode jdk_42_method_3_code 0 = .ok (.aload_n 0, 1) := by decide +kernel
theorem own_d2_1 : decode jdk_42_method_3_code 1 = .ok (.aload_n 1, 1) := by decide +kernel
theorem own_d2_2 : decode jdk_42_method_3_code 2 = .ok (.iconst 0, 1) := by decide +kernel
theorem own_d2_3 : decode jdk_42_method_3_code 3 = .ok (.aload_n 1, 1) := by decide +kernel
theorem own_d2_4 : decode jdk_42_method_3_code 4 = .ok (.arraylength, 1) := by decide +kernel
theorem own_d2_5 : decode jdk_42_method_3_code 5 = .ok (.aconst_null, 1) := by decide +kernel
theorem own_d2_6 : decode jdk_42_method_3_code 6 = .ok (.invokespecial 27, 3) := by decide +kernel
theorem own_pd_0 : parseMethodDescriptor "([CIILjava/lang/Void;)V" = some ⟨[(.array .char), .int, .int, (.object "java/lang/Void")], none⟩ := by decide +kernel
abbrev own_m1 : MethodName := ⟨"java/lang/String", "<init>", "([CIILjava/lang/Void;)V"⟩
theorem own_d2_9 : decode jdk_42_method_3_code 9 = .ok (.return_, 1) := by decide +kernel
theorem own_ef_own_strInit0 (m : MethodId) (xa : Addr) (xc : Addr) : entryFrame m #[(.ref xa), (.ref xc)] 2 = mkF m 0 #[.val (.ref xa), .val (.ref xc)] [] := by first | (simp [entryFrame, mkF, argsToLocals, Value.category]; done) | rfl
def Q_own_strInit0 (Z : State) (xa : Addr) (xc : Addr) (xk : ClassId) (h0 : Heap) (n0 : Nat) (v : Option Value) (h : Heap) (L : List Loc) : Prop := Fr n0 L ∧ Keep h0 h [xa] ∧ ∃ (rb : Addr), ∃ (rk : ClassId), v = none ∧ Exa Z h xa "java/lang/String" ∧ Fld Z h xa "java/lang/String" "value" "[B" (.ref rb) ∧ Fld Z h xa "java/lang/String" "coder" "B" (.int (0 : Int32)) ∧ Arv Z h rb rk .byte (0 : Int32) [] (.int (0 : Int32))
set_option maxRecDepth 65536 in
set_option maxHeartbeats 40000000 in
theorem own_strInit0 (l : Launch) (Z : State) (a0 : Array Value) (hw : ∀ d ∈ tables_1, d.before a0 Z = true) (ws : List Jvm.Cond) (xa : Addr) (xc : Addr) (xk : ClassId) (h0 : Heap) (n0 : Nat) (O0 : Old Z n0 h0) (P0 : Exa Z h0 xa "java/lang/String") (P1 : Fld Z h0 xa "java/lang/String" "value" "[B" .null) (P2 : Fld Z h0 xa "java/lang/String" "coder" "B" (.int (0 : Int32))) (P3 : n0 ≤ xa) (P4 : Arv Z h0 xc xk .char (0 : Int32) [] (.int (0 : Int32))) :
    MetFree l (⟨"java/lang/String", "<init>", "([C)V"⟩ : MethodName) (head1 (Jvm.Cond.code (⟨"java/lang/String", "<init>", "([C)V"⟩ : MethodName) jdk_42_method_3_code 2 none :: ws) ({ frames := 2, cells := 4, slots := 8, locals := 29 } : Room)) (fun as_ U_ => as_ = #[(.ref xa), (.ref xc)] ∧ Z.Warmed39 U_.vm ∧ U_.heap = h0 ∧ CHv Z consts_1 U_.vm h0) (fun _ _ _ _ _ => True) (fun _ U_ o_ U2_ => ∃ v_ L_, o_ = .returned v_ ∧ Q_own_strInit0 Z xa xc xk h0 n0 v_ U2_.heap L_ ∧ CHr Z consts_1 U_.vm U_.heap U2_.vm U2_.heap ∧ ReturnedEndW U_ o_ U2_ L_ ({ frames := 2, cells := 4, slots := 8, locals := 29 } : Room).cells ({ frames := 2, cells := 4, slots := 8, locals := 29 } : Room).slots) := by
  refine MetFree.of_bodySF (plainFor_of_name own_pn_java_lang_String) hisR ?_
  intro p e s m args below meth c s₁ Bd hml0 hP hK
  obtain ⟨rfl, hZ, hh, hC0⟩ := hP
  have hx := Bd.exec
  have hby := Bd.bytes
  have hml : c.maxLocals = 2 := hml0
  have hown : s.vm.findClass "java/lang/String" = some m.cls := findClass_of_methodNamed Bd.named
  have hnm := (name_of_methodNamed Bd.named Bd.method).1
  have hlk : meth.locks = false := Bd.notSynchronized
  have hret := Bd.returns
  have X0 : Stand p l e ({ frames := 2, cells := 4, slots := 8, locals := 29 } : Room) s m #[(.ref xa), (.ref xc)] below meth c s₁ [] 0 0 := Stand.of_body Bd
  have e0 : s₁.heap = h0 := by rw [← hh, Bd.state]; rfl
  have N0 := Fr.nil n0
  have z0 : Z.heap.size = n0 := O0.1
  have z1 : n0 ≤ h0.size := z0 ▸ O0.2.1
  have K0 : Keep h0 h0 [xa] := Keep.refl _ _
  have hS0 : s.Since s.vm 0 := (State.WarmedH.refl s).since 0
  have hk0 : 0 ≤ h0.size := Nat.zero_le _
  replace X0 : Stand p l e ({ frames := 2, cells := 4, slots := 8, locals := 29 } : Room) (s.setVm s.vm) m #[(.ref xa), (.ref xc)] below meth c s₁ [] 0 0 := X0
  have CR0 := CHr.refl hC0
  show own_Goes p e below (s₁.setTop (entryFrame m #[(.ref xa), (.ref xc)] 2)) (own_PostH Z consts_1 s (Q_own_strInit0 Z xa xc xk h0 n0) ({ frames := 2, cells := 4, slots := 8, locals := 29 } : Room).cells ({ frames := 2, cells := 4, slots := 8, locals := 29 } : Room).slots)
  refine own_cast (own_ef_own_strInit0 m xa xc) ?_
  show own_Goes p e below (s₁.setTop (mkF m 0 #[.val (.ref xa), .val (.ref xc)] [])) _
  have ltP0 : @LT.lt Nat _ xa h0.size := P0.lt
  have ltP4 : @LT.lt Nat _ xc h0.size := P4.lt
  refine own_go (fun t_ k_ => XS.aloadN X0.here hx rfl (hb hby own_d2_0) rfl rfl k_) ?_
  show own_Goes p e below (s₁.setTop (mkF m 1 #[.val (.ref xa), .val (.ref xc)] [(.ref xa)])) _
  refine own_go (fun t_ k_ => XS.aloadN X0.here hx rfl (hb hby own_d2_1) rfl rfl k_) ?_
  show own_Goes p e below (s₁.setTop (mkF m 2 #[.val (.ref xa), .val (.ref xc)] [(.ref xc), (.ref xa)])) _
  refine own_go (fun t_ k_ => XS.iconst X0.here hx rfl (hb hby own_d2_2) k_) ?_
  show own_Goes p e below (s₁.setTop (mkF m 3 #[.val (.ref xa), .val (.ref xc)] [(.int (0 : Int32)), (.ref xc), (.ref xa)])) _
  refine own_go (fun t_ k_ => XS.aloadN X0.here hx rfl (hb hby own_d2_3) rfl rfl k_) ?_
  show own_Goes p e below (s₁.setTop (mkF m 4 #[.val (.ref xa), .val (.ref xc)] [(.ref xc), (.int (0 : Int32)), (.ref xc), (.ref xa)])) _
  obtain ⟨clu1, Aru1, qu1, Szu1, Ngu1, Hsu1, Gsu1⟩ := id P4
  refine own_go (fun t_ k_ => X0.arraylength hx (by rw [e0]; exact Aru1.1) (State.isArrayOf_alike hZ.alike Aru1.2.1) (g := (mkF m 4 #[.val (.ref xa), .val (.ref xc)] [(.ref xc), (.int (0 : Int32)), (.ref xc), (.ref xa)])) rfl rfl (hb hby own_d2_4) _ k_) ?_
  rw [len_of Szu1 Ngu1]
  show own_Goes p e below (s₁.setTop (mkF m 5 #[.val (.ref xa), .val (.ref xc)] [(.int (0 : Int32)), (.int (0 : Int32)), (.ref xc), (.ref xa)])) _
  refine own_go (fun t_ k_ => XS.aconstNull X0.here hx rfl (hb hby own_d2_5) k_) ?_
  show own_Goes p e below (s₁.setTop (mkF m 6 #[.val (.ref xa), .val (.ref xc)] [.null, (.int (0 : Int32)), (.int (0 : Int32)), (.ref xc), (.ref xa)])) _
  obtain ⟨_, _, ⟨T2, L2, k2, n2⟩, -, X2, hS2, gr2, ⟨Lc2, hQ2, l2, y2, z2, cs2⟩, st2⟩ := X0.specialBackS hx (y := own_m1) rfl hown (mvT hZ (hw _ (List.mem_of_getElem? (i := 11) rfl))) (mvT hZ (hw _ (List.mem_of_getElem? (i := 12) rfl))) (mvT hZ (hw _ (List.mem_of_getElem? (i := 14) rfl))) (by decide) (backOfSH (W := 0) (own_strInit0v l Z a0 hw [] xa xc h0 n0 O0 P0 P1 P2 (show n0 ≤ xa by first | assumption | omega | decide)) hZ (hw _ (List.mem_of_getElem? (i := 14) rfl)) (hw _ (List.mem_of_getElem? (i := 6) rfl)) (by decide) (by decide) (own_EW hw) CR0.1) (g := (mkF m 6 #[.val (.ref xa), .val (.ref xc)] [.null, (.int (0 : Int32)), (.int (0 : Int32)), (.ref xc), (.ref xa)])) rfl (by rw [hml]; rfl) (Steps.refl _) (a := xa) (argsL := [(.ref xc), (.int (0 : Int32)), (.int (0 : Int32)), .null]) (rest := []) (lenOf own_pd_0 rfl) rfl (by show 2 * 0 + _ ≤ _; exact Nat.le_of_eq rfl) (hb hby own_d2_6) (fun _ _ => ⟨rfl, e0, (by decide : 0 + 4 ≤ _), (by decide : 0 + 8 ≤ _)⟩)
  dsimp only [Pt.U, Pt.locs, Pt.cells, Pt.slots] at X2 l2 y2 z2 st2 hQ2 hS2 gr2 cs2
  subst l2 y2 z2
  obtain ⟨h2, e2⟩ : ∃ z, T2.heap = z := ⟨_, rfl⟩
  rw [e2] at hQ2 hS2 gr2 cs2
  obtain ⟨Nc2, Kc2, rb_2, rk_2, rfl, c2_0, c2_1, c2_2, c2_3⟩ := hQ2
  obtain ⟨X2, hS2, hZ2, hown2⟩ := rebS (own := "java/lang/String") hS0 (show _ ≤ s₁.heap.size by rw [e0]; exact hk0) X2 hS2 gr2 hZ hown
  have hk2 : h2.size ≤ h2.size := Nat.le_refl _
  have N2 := Fr.app N0 Nc2
  have O3 := O0.keep Kc2 (allS (show n0 ≤ xa by omega) all0)
  have sz4 : h0.size ≤ h2.size := Kc2.1
  have CR5 := CHr.trans CR0 cs2
  have K6 := Keep.trans K0 Kc2 (allS (Or.inl (List.mem_of_getElem? (i := 0) rfl)) all0)
  have ltc2_0 : @LT.lt Nat _ xa h2.size := c2_0.lt
  have ltc2_3 : @LT.lt Nat _ rb_2 h2.size := c2_3.lt
  refine own_goS st2 ?_
  show own_Goes p e below (T2.setTop (mkF m 9 #[.val (.ref xa), .val (.ref xc)] [])) _
  refine own_endH X2 hS2 (show _ ≤ T2.heap.size by rw [e2]; exact hk2) e2 hh CR5 hZ2 (own_EW hw) (v := none) (fun _ => rfl) hlk (by decide) (by decide) ?_ (fun fs hr => X2.returnOut hx hret (hb hby own_d2_9) hr)
  show Q_own_strInit0 Z xa xc xk h0 n0 _ T2.heap _
  rw [e2]
  exact ⟨N2, K6, rb_2, rk_2, rfl, c2_0, c2_1, c2_2, c2_3⟩
theorem own_and3 (x : Int32) : (x &&& (3 : Int32)) = (0 : Int32) ∨ (x &&& (3 : Int32)) = (1 : Int32) ∨ (x &&& (3 : Int32)) = (2 : Int32) ∨ (x &&& (3 : Int32)) = (3 : Int32) := by
  have q := c_mask x 3 2 (by decide) (by decide)
  have r : 0 ≤ (x &&& (3 : Int32)).toInt ∧ (x &&& (3 : Int32)).toInt < 4 := by omega
  simp only [← Int32.toInt_inj, show (0 : Int32).toInt = 0 from by decide, show (1 : Int32).toInt = 1 from by decide, show (2 : Int32).toInt = 2 from by decide, show (3 : Int32).toInt = 3 from by decide]
  omega
theorem own_d1_0 : decode method_3_code 0 = .ok (.iload_n 0, 1) := by decide +kernel
theorem own_d1_1 : decode method_3_code 1 = .ok (.iconst 3, 1) := by decide +kernel
theorem own_d1_2 : decode method_3_code 2 = .ok (.iand, 1) := by decide +kernel
theorem own_d1_3 : decode method_3_code 3 = .ok (.istore_n 1, 1) := by decide +kernel
theorem own_d1_4 : decode method_3_code 4 = .ok (.iload_n 0, 1) := by decide +kernel
theorem own_d1_5 : decode method_3_code 5 = .ok (.iconst 2, 1) := by decide +kernel
theorem own_d1_6 : decode method_3_code 6 = .ok (.iushr, 1) := by decide +kernel
theorem own_d1_7 : decode method_3_code 7 = .ok (.sipush 255, 3) := by decide +kernel
theorem own_d1_10 : decode method_3_code 10 = .ok (.iand, 1) := by decide +kernel
theorem own_d1_11 : decode method_3_code 11 = .ok (.i2c, 1) := by decide +kernel
theorem own_d1_12 : decode method_3_code 12 = .ok (.istore_n 2, 1) := by decide +kernel
theorem own_d1_13 : decode method_3_code 13 = .ok (.iload_n 0, 1) := by decide +kernel
theorem own_d1_14 : decode method_3_code 14 = .ok (.bipush 10, 2) := by decide +kernel
theorem own_d1_16 : decode method_3_code 16 = .ok (.iushr, 1) := by decide +kernel
theorem own_d1_17 : decode method_3_code 17 = .ok (.sipush 255, 3) := by decide +kernel
theorem own_d1_20 : decode method_3_code 20 = .ok (.iand, 1) := by decide +kernel
theorem own_d1_21 : decode method_3_code 21 = .ok (.i2c, 1) := by decide +kernel
theorem own_d1_22 : decode method_3_code 22 = .ok (.istore_n 3, 1) := by decide +kernel
theorem own_d1_23 : decode method_3_code 23 = .ok (.iload_n 0, 1) := by decide +kernel
theorem own_d1_24 : decode method_3_code 24 = .ok (.bipush 18, 2) := by decide +kernel
theorem own_d1_26 : decode method_3_code 26 = .ok (.iushr, 1) := by decide +kernel
theorem own_d1_27 : decode method_3_code 27 = .ok (.sipush 255, 3) := by decide +kernel
theorem own_d1_30 : decode method_3_code 30 = .ok (.iand, 1) := by decide +kernel
theorem own_d1_31 : decode method_3_code 31 = .ok (.i2c, 1) := by decide +kernel
theorem own_d1_32 : decode method_3_code 32 = .ok (.istore 4, 2) := by decide +kernel
theorem own_d1_34 : decode method_3_code 34 = .ok (.iload_n 1, 1) := by decide +kernel
theorem own_d1_35 : decode method_3_code 35 = .ok (.ifCond .ne 14, 3) := by decide +kernel
theorem own_d1_38 : decode method_3_code 38 = .ok (.new 13, 3) := by decide +kernel
theorem own_d1_41 : decode method_3_code 41 = .ok (.dup, 1) := by decide +kernel
theorem own_d1_42 : decode method_3_code 42 = .ok (.iconst 0, 1) := by decide +kernel
theorem own_d1_43 : decode method_3_code 43 = .ok (.newarray .char, 2) := by decide +kernel
theorem own_d1_45 : decode method_3_code 45 = .ok (.invokespecial 42, 3) := by decide +kernel
theorem own_pd_2 : parseMethodDescriptor "([C)V" = some ⟨[(.array .char)], none⟩ := by decide +kernel
abbrev own_m3 : MethodName := ⟨"java/lang/String", "<init>", "([C)V"⟩
theorem own_d1_48 : decode method_3_code 48 = .ok (.areturn, 1) := by decide +kernel
theorem own_d1_49 : decode method_3_code 49 = .ok (.iload_n 1, 1) := by decide +kernel
theorem own_d1_50 : decode method_3_code 50 = .ok (.iconst 1, 1) := by decide +kernel
theorem own_d1_51 : decode method_3_code 51 = .ok (.if_icmp .ne 18, 3) := by decide +kernel
theorem own_d1_54 : decode method_3_code 54 = .ok (.new 13, 3) := by decide +kernel
theorem own_d1_57 : decode method_3_code 57 = .ok (.dup, 1) := by decide +kernel
theorem own_d1_58 : decode method_3_code 58 = .ok (.iconst 1, 1) := by decide +kernel
theorem own_d1_59 : decode method_3_code 59 = .ok (.newarray .char, 2) := by decide +kernel
theorem own_d1_61 : decode method_3_code 61 = .ok (.dup, 1) := by decide +kernel
theorem own_d1_62 : decode method_3_code 62 = .ok (.iconst 0, 1) := by decide +kernel
theorem own_d1_63 : decode method_3_code 63 = .ok (.iload_n 2, 1) := by decide +kernel
theorem own_d1_64 : decode method_3_code 64 = .ok (.castore, 1) := by decide +kernel
theorem own_d1_65 : decode method_3_code 65 = .ok (.invokespecial 42, 3) := by decide +kernel
theorem own_d1_68 : decode method_3_code 68 = .ok (.areturn, 1) := by decide +kernel
theorem own_d1_69 : decode method_3_code 69 = .ok (.iload_n 1, 1) := by decide +kernel
theorem own_d1_70 : decode method_3_code 70 = .ok (.iconst 2, 1) := by decide +kernel
theorem own_d1_71 : decode method_3_code 71 = .ok (.if_icmp .ne 22, 3) := by decide +kernel
theorem own_d1_74 : decode method_3_code 74 = .ok (.new 13, 3) := by decide +kernel
theorem own_d1_77 : decode method_3_code 77 = .ok (.dup, 1) := by decide +kernel
theorem own_d1_78 : decode method_3_code 78 = .ok (.iconst 2, 1) := by decide +kernel
theorem own_d1_79 : decode method_3_code 79 = .ok (.newarray .char, 2) := by decide +kernel
theorem own_d1_81 : decode method_3_code 81 = .ok (.dup, 1) := by decide +kernel
theorem own_d1_82 : decode method_3_code 82 = .ok (.iconst 0, 1) := by decide +kernel
theorem own_d1_83 : decode method_3_code 83 = .ok (.iload_n 2, 1) := by decide +kernel
theorem own_d1_84 : decode method_3_code 84 = .ok (.castore, 1) := by decide +kernel
theorem own_d1_85 : decode method_3_code 85 = .ok (.dup, 1) := by decide +kernel
theorem own_d1_86 : decode method_3_code 86 = .ok (.iconst 1, 1) := by decide +kernel
theorem own_d1_87 : decode method_3_code 87 = .ok (.iload_n 3, 1) := by decide +kernel
theorem own_d1_88 : decode method_3_code 88 = .ok (.castore, 1) := by decide +kernel
theorem own_d1_89 : decode method_3_code 89 = .ok (.invokespecial 42, 3) := by decide +kernel
theorem own_d1_92 : decode method_3_code 92 = .ok (.areturn, 1) := by decide +kernel
theorem own_d1_93 : decode method_3_code 93 = .ok (.new 13, 3) := by decide +kernel
theorem own_d1_96 : decode method_3_code 96 = .ok (.dup, 1) := by decide +kernel
theorem own_d1_97 : decode method_3_code 97 = .ok (.iconst 3, 1) := by decide +kernel
theorem own_d1_98 : decode method_3_code 98 = .ok (.newarray .char, 2) := by decide +kernel
theorem own_d1_100 : decode method_3_code 100 = .ok (.dup, 1) := by decide +kernel
theorem own_d1_101 : decode method_3_code 101 = .ok (.iconst 0, 1) := by decide +kernel
theorem own_d1_102 : decode method_3_code 102 = .ok (.iload_n 2, 1) := by decide +kernel
theorem own_d1_103 : decode method_3_code 103 = .ok (.castore, 1) := by decide +kernel
theorem own_d1_104 : decode method_3_code 104 = .ok (.dup, 1) := by decide +kernel
theorem own_d1_105 : decode method_3_code 105 = .ok (.iconst 1, 1) := by decide +kernel
theorem own_d1_106 : decode method_3_code 106 = .ok (.iload_n 3, 1) := by decide +kernel
theorem own_d1_107 : decode method_3_code 107 = .ok (.castore, 1) := by decide +kernel
theorem own_d1_108 : decode method_3_code 108 = .ok (.dup, 1) := by decide +kernel
theorem own_d1_109 : decode method_3_code 109 = .ok (.iconst 2, 1) := by decide +kernel
theorem own_d1_110 : decode method_3_code 110 = .ok (.iload 4, 2) := by decide +kernel
theorem own_d1_112 : decode method_3_code 112 = .ok (.castore, 1) := by decide +kernel
theorem own_d1_113 : decode method_3_code 113 = .ok (.invokespecial 42, 3) := by decide +kernel
theorem own_d1_116 : decode method_3_code 116 = .ok (.areturn, 1) := by decide +kernel
theorem own_pn_com_example_saasy_saasy_ledger_SchemaStepOfPinLaw : plainName "com/example/saasy/saasy/ledger/SchemaStepOfPinLaw" = true := by first | (simp [plainName, overriddenIn]; done) | decide +kernel
theorem own_ef_own_str (m : MethodId) (xi : Int32) : entryFrame m #[(.int xi)] 5 = mkF m 0 #[.val (.int xi), .unset, .unset, .unset, .unset] [] := by first | (simp [entryFrame, mkF, argsToLocals, Value.category]; done) | rfl
def Q_own_str (Z : State) (xi : Int32) (gz : Int32) (gwE : Addr) (gwO : Addr) (gwA : Addr) (gk : ClassId) (h0 : Heap) (n0 : Nat) (v : Option Value) (h : Heap) (L : List Loc) : Prop := Fr n0 L ∧ Keep h0 h [] ∧ ∃ (r : Addr), v = some (.ref r) ∧ Exa Z h r "java/lang/String" ∧ h0.size ≤ r
set_option maxRecDepth 65536 in
set_option maxHeartbeats 40000000 in
theorem own_str (l : Launch) (Z : State) (a0 : Array Value) (hw : ∀ d ∈ tables_1, d.before a0 Z = true) (ws : List Jvm.Cond) (xi : Int32) (h0 : Heap) (n0 : Nat) (O0 : Old Z n0 h0) (gz : Int32) (gwE : Addr) (gwO : Addr) (gwA : Addr) (gk : ClassId) (G : GG Z gz gwE gwO gwA gk) :
    MetFree l (⟨"com/example/saasy/saasy/ledger/SchemaStepOfPinLaw", "str", "(I)Ljava/lang/String;"⟩ : MethodName) (head1 (Jvm.Cond.code (⟨"com/example/saasy/saasy/ledger/SchemaStepOfPinLaw", "str", "(I)Ljava/lang/String;"⟩ : MethodName) method_3_code 5 (some (.object "java/lang/String")) :: ws) ({ frames := 4, cells := 6, slots := 12, locals := 66 } : Room)) (fun as_ U_ => as_ = #[(.int xi)] ∧ Z.Warmed39 U_.vm ∧ U_.heap = h0 ∧ CHv Z consts_1 U_.vm h0) (fun _ _ _ _ _ => True) (fun _ U_ o_ U2_ => ∃ v_ L_, o_ = .returned v_ ∧ Q_own_str Z xi gz gwE gwO gwA gk h0 n0 v_ U2_.heap L_ ∧ CHr Z consts_1 U_.vm U_.heap U2_.vm U2_.heap ∧ ReturnedEndW U_ o_ U2_ L_ ({ frames := 4, cells := 6, slots := 12, locals := 66 } : Room).cells ({ frames := 4, cells := 6, slots := 12, locals := 66 } : Room).slots) := by
  refine MetFree.of_bodySF (plainFor_of_name own_pn_com_example_saasy_saasy_ledger_SchemaStepOfPinLaw) hisR ?_
  intro p e s m args below meth c s₁ Bd hml0 hP hK
  obtain ⟨rfl, hZ, hh, hC0⟩ := hP
  have hx := Bd.exec
  have hby := Bd.bytes
  have hml : c.maxLocals = 5 := hml0
  have hown : s.vm.findClass "com/example/saasy/saasy/ledger/SchemaStepOfPinLaw" = some m.cls := findClass_of_methodNamed Bd.named
  have hnm := (name_of_methodNamed Bd.named Bd.method).1
  have hlk : meth.locks = false := Bd.notSynchronized
  have hret := Bd.returns
  have X0 : Stand p l e ({ frames := 4, cells := 6, slots := 12, locals := 66 } : Room) s m #[(.int xi)] below meth c s₁ [] 0 0 := Stand.of_body Bd
  have e0 : s₁.heap = h0 := by rw [← hh, Bd.state]; rfl
  have N0 := Fr.nil n0
  have z0 : Z.heap.size = n0 := O0.1
  have z1 : n0 ≤ h0.size := z0 ▸ O0.2.1
  have K0 : Keep h0 h0 [] := Keep.refl _ _
  have hS0 : s.Since s.vm 0 := (State.WarmedH.refl s).since 0
  have hk0 : 0 ≤ h0.size := Nat.zero_le _
  replace X0 : Stand p l e ({ frames := 4, cells := 6, slots := 12, locals := 66 } : Room) (s.setVm s.vm) m #[(.int xi)] below meth c s₁ [] 0 0 := X0
  have CR0 := CHr.refl hC0
  show own_Goes p e below (s₁.setTop (entryFrame m #[(.int xi)] 5)) (own_PostH Z consts_1 s (Q_own_str Z xi gz gwE gwO gwA gk h0 n0) ({ frames := 4, cells := 6, slots := 12, locals := 66 } : Room).cells ({ frames := 4, cells := 6, slots := 12, locals := 66 } : Room).slots)
  refine own_cast (own_ef_own_str m xi) ?_
  show own_Goes p e below (s₁.setTop (mkF m 0 #[.val (.int xi), .unset, .unset, .unset, .unset] [])) _
  obtain ⟨G0, G1, G2, G3, G4, G5, G6, G7⟩ := id G
  have ltG3 : @LT.lt Nat _ gwE Z.heap.size := G3.lt
  have ltG5 : @LT.lt Nat _ gwO Z.heap.size := G5.lt
  have ltG7 : @LT.lt Nat _ gwA Z.heap.size := G7.lt
  refine own_go (fun t_ k_ => XS.iloadN X0.here hx rfl (hb hby own_d1_0) rfl k_) ?_
  show own_Goes p e below (s₁.setTop (mkF m 1 #[.val (.int xi), .unset, .unset, .unset, .unset] [(.int xi)])) _
  refine own_go (fun t_ k_ => XS.iconst X0.here hx rfl (hb hby own_d1_1) k_) ?_
  show own_Goes p e below (s₁.setTop (mkF m 2 #[.val (.int xi), .unset, .unset, .unset, .unset] [(.int (3 : Int32)), (.int xi)])) _
  refine own_go (fun t_ k_ => XS.iand X0.here hx rfl (hb hby own_d1_2) rfl k_) ?_
  show own_Goes p e below (s₁.setTop (mkF m 3 #[.val (.int xi), .unset, .unset, .unset, .unset] [(.int (xi &&& (3 : Int32)))])) _
  rcases own_and3 xi with hl1 | hl2 | hl3 | hl4
  · rw [hl1]
    show own_Goes p e below (s₁.setTop (mkF m 3 #[.val (.int xi), .unset, .unset, .unset, .unset] [(.int (0 : Int32))])) _
    refine own_go (fun t_ k_ => XS.istoreN X0.here hx rfl (hb hby own_d1_3) rfl (l' := #[.val (.int xi), .val (.int (0 : Int32)), .unset, .unset, .unset]) rfl k_) ?_
    show own_Goes p e below (s₁.setTop (mkF m 4 #[.val (.int xi), .val (.int (0 : Int32)), .unset, .unset, .unset] [])) _
    refine own_go (fun t_ k_ => XS.iloadN X0.here hx rfl (hb hby own_d1_4) rfl k_) ?_
    show own_Goes p e below (s₁.setTop (mkF m 5 #[.val (.int xi), .val (.int (0 : Int32)), .unset, .unset, .unset] [(.int xi)])) _
    refine own_go (fun t_ k_ => XS.iconst X0.here hx rfl (hb hby own_d1_5) k_) ?_
    show own_Goes p e below (s₁.setTop (mkF m 6 #[.val (.int xi), .val (.int (0 : Int32)), .unset, .unset, .unset] [(.int (2 : Int32)), (.int xi)])) _
    refine own_go (fun t_ k_ => XS.iushr X0.here hx rfl (hb hby own_d1_6) rfl k_) ?_
    show own_Goes p e below (s₁.setTop (mkF m 7 #[.val (.int xi), .val (.int (0 : Int32)), .unset, .unset, .unset] [(.int ((xi.toUInt32 >>> ((2 : Int32) &&& 31).toUInt32).toInt32))])) _
    refine own_go (fun t_ k_ => XS.sipush X0.here hx rfl (hb hby own_d1_7) k_) ?_
    show own_Goes p e below (s₁.setTop (mkF m 10 #[.val (.int xi), .val (.int (0 : Int32)), .unset, .unset, .unset] [(.int (255 : Int32)), (.int ((xi.toUInt32 >>> ((2 : Int32) &&& 31).toUInt32).toInt32))])) _
    refine own_go (fun t_ k_ => XS.iand X0.here hx rfl (hb hby own_d1_10) rfl k_) ?_
    show own_Goes p e below (s₁.setTop (mkF m 11 #[.val (.int xi), .val (.int (0 : Int32)), .unset, .unset, .unset] [(.int (((xi.toUInt32 >>> ((2 : Int32) &&& 31).toUInt32).toInt32) &&& (255 : Int32)))])) _
    refine own_go (fun t_ k_ => XS.i2c X0.here hx rfl (hb hby own_d1_11) rfl k_) ?_
    show own_Goes p e below (s₁.setTop (mkF m 12 #[.val (.int xi), .val (.int (0 : Int32)), .unset, .unset, .unset] [(.int ((((xi.toUInt32 >>> ((2 : Int32) &&& 31).toUInt32).toInt32) &&& (255 : Int32)).toUInt32.toUInt16.toUInt32.toInt32))])) _
    rw [i2c_mask]
    show own_Goes p e below (s₁.setTop (mkF m 12 #[.val (.int xi), .val (.int (0 : Int32)), .unset, .unset, .unset] [(.int (((xi.toUInt32 >>> ((2 : Int32) &&& 31).toUInt32).toInt32) &&& (255 : Int32)))])) _
    refine own_go (fun t_ k_ => XS.istoreN X0.here hx rfl (hb hby own_d1_12) rfl (l' := #[.val (.int xi), .val (.int (0 : Int32)), .val (.int (((xi.toUInt32 >>> ((2 : Int32) &&& 31).toUInt32).toInt32) &&& (255 : Int32))), .unset, .unset]) rfl k_) ?_
    show own_Goes p e below (s₁.setTop (mkF m 13 #[.val (.int xi), .val (.int (0 : Int32)), .val (.int (((xi.toUInt32 >>> ((2 : Int32) &&& 31).toUInt32).toInt32) &&& (255 : Int32))), .unset, .unset] [])) _
    refine own_go (fun t_ k_ => XS.iloadN X0.here hx rfl (hb hby own_d1_13) rfl k_) ?_
    show own_Goes p e below (s₁.setTop (mkF m 14 #[.val (.int xi), .val (.int (0 : Int32)), .val (.int (((xi.toUInt32 >>> ((2 : Int32) &&& 31).toUInt32).toInt32) &&& (255 : Int32))), .unset, .unset] [(.int xi)])) _
    refine own_go (fun t_ k_ => XS.bipush X0.here hx rfl (hb hby own_d1_14) k_) ?_
    show own_Goes p e below (s₁.setTop (mkF m 16 #[.val (.int xi), .val (.int (0 : Int32)), .val (.int (((xi.toUInt32 >>> ((2 : Int32) &&& 31).toUInt32).toInt32) &&& (255 : Int32))), .unset, .unset] [(.int (10 : Int32)), (.int xi)])) _
    refine own_go (fun t_ k_ => XS.iushr X0.here hx rfl (hb hby own_d1_16) rfl k_) ?_
    show own_Goes p e below (s₁.setTop (mkF m 17 #[.val (.int xi), .val (.int (0 : Int32)), .val (.int (((xi.toUInt32 >>> ((2 : Int32) &&& 31).toUInt32).toInt32) &&& (255 : Int32))), .unset, .unset] [(.int ((xi.toUInt32 >>> ((10 : Int32) &&& 31).toUInt32).toInt32))])) _
    refine own_go (fun t_ k_ => XS.sipush X0.here hx rfl (hb hby own_d1_17) k_) ?_
    show own_Goes p e below (s₁.setTop (mkF m 20 #[.val (.int xi), .val (.int (0 : Int32)), .val (.int (((xi.toUInt32 >>> ((2 : Int32) &&& 31).toUInt32).toInt32) &&& (255 : Int32))), .unset, .unset] [(.int (255 : Int32)), (.int ((xi.toUInt32 >>> ((10 : Int32) &&& 31).toUInt32).toInt32))])) _
    refine own_go (fun t_ k_ => XS.iand X0.here hx rfl (hb hby own_d1_20) rfl k_) ?_
    show own_Goes p e below (s₁.setTop (mkF m 21 #[.val (.int xi), .val (.int (0 : Int32)), .val (.int (((xi.toUInt32 >>> ((2 : Int32) &&& 31).toUInt32).toInt32) &&& (255 : Int32))), .unset, .unset] [(.int (((xi.toUInt32 >>> ((10 : Int32) &&& 31).toUInt32).toInt32) &&& (255 : Int32)))])) _
    refine own_go (fun t_ k_ => XS.i2c X0.here hx rfl (hb hby own_d1_21) rfl k_) ?_
    show own_Goes p e below (s₁.setTop (mkF m 22 #[.val (.int xi), .val (.int (0 : Int32)), .val (.int (((xi.toUInt32 >>> ((2 : Int32) &&& 31).toUInt32).toInt32) &&& (255 : Int32))), .unset, .unset] [(.int ((((xi.toUInt32 >>> ((10 : Int32) &&& 31).toUInt32).toInt32) &&& (255 : Int32)).toUInt32.toUInt16.toUInt32.toInt32))])) _
    rw [i2c_mask]
    show own_Goes p e below (s₁.setTop (mkF m 22 #[.val (.int xi), .val (.int (0 : Int32)), .val (.int (((xi.toUInt32 >>> ((2 : Int32) &&& 31).toUInt32).toInt32) &&& (255 : Int32))), .unset, .unset] [(.int (((xi.toUInt32 >>> ((10 : Int32) &&& 31).toUInt32).toInt32) &&& (255 : Int32)))])) _
    refine own_go (fun t_ k_ => XS.istoreN X0.here hx rfl (hb hby own_d1_22) rfl (l' := #[.val (.int xi), .val (.int (0 : Int32)), .val (.int (((xi.toUInt32 >>> ((2 : Int32) &&& 31).toUInt32).toInt32) &&& (255 : Int32))), .val (.int (((xi.toUInt32 >>> ((10 : Int32) &&& 31).toUInt32).toInt32) &&& (255 : Int32))), .unset]) rfl k_) ?_
    show own_Goes p e below (s₁.setTop (mkF m 23 #[.val (.int xi), .val (.int (0 : Int32)), .val (.int (((xi.toUInt32 >>> ((2 : Int32) &&& 31).toUInt32).toInt32) &&& (255 : Int32))), .val (.int (((xi.toUInt32 >>> ((10 : Int32) &&& 31).toUInt32).toInt32) &&& (255 : Int32))), .unset] [])) _
    refine own_go (fun t_ k_ => XS.iloadN X0.here hx rfl (hb hby own_d1_23) rfl k_) ?_
    show own_Goes p e below (s₁.setTop (mkF m 24 #[.val (.int xi), .val (.int (0 : Int32)), .val (.int (((xi.toUInt32 >>> ((2 : Int32) &&& 31).toUInt32).toInt32) &&& (255 : Int32))), .val (.int (((xi.toUInt32 >>> ((10 : Int32) &&& 31).toUInt32).toInt32) &&& (255 : Int32))), .unset] [(.int xi)])) _
    refine own_go (fun t_ k_ => XS.bipush X0.here hx rfl (hb hby own_d1_24) k_) ?_
    show own_Goes p e below (s₁.setTop (mkF m 26 #[.val (.int xi), .val (.int (0 : Int32)), .val (.int (((xi.toUInt32 >>> ((2 : Int32) &&& 31).toUInt32).toInt32) &&& (255 : Int32))), .val (.int (((xi.toUInt32 >>> ((10 : Int32) &&& 31).toUInt32).toInt32) &&& (255 : Int32))), .unset] [(.int (18 : Int32)), (.int xi)])) _
    refine own_go (fun t_ k_ => XS.iushr X0.here hx rfl (hb hby own_d1_26) rfl k_) ?_
    show own_Goes p e below (s₁.setTop (mkF m 27 #[.val (.int xi), .val (.int (0 : Int32)), .val (.int (((xi.toUInt32 >>> ((2 : Int32) &&& 31).toUInt32).toInt32) &&& (255 : Int32))), .val (.int (((xi.toUInt32 >>> ((10 : Int32) &&& 31).toUInt32).toInt32) &&& (255 : Int32))), .unset] [(.int ((xi.toUInt32 >>> ((18 : Int32) &&& 31).toUInt32).toInt32))])) _
    refine own_go (fun t_ k_ => XS.sipush X0.here hx rfl (hb hby own_d1_27) k_) ?_
    show own_Goes p e below (s₁.setTop (mkF m 30 #[.val (.int xi), .val (.int (0 : Int32)), .val (.int (((xi.toUInt32 >>> ((2 : Int32) &&& 31).toUInt32).toInt32) &&& (255 : Int32))), .val (.int (((xi.toUInt32 >>> ((10 : Int32) &&& 31).toUInt32).toInt32) &&& (255 : Int32))), .unset] [(.int (255 : Int32)), (.int ((xi.toUInt32 >>> ((18 : Int32) &&& 31).toUInt32).toInt32))])) _
    refine own_go (fun t_ k_ => XS.iand X0.here hx rfl (hb hby own_d1_30) rfl k_) ?_
    show own_Goes p e below (s₁.setTop (mkF m 31 #[.val (.int xi), .val (.int (0 : Int32)), .val (.int (((xi.toUInt32 >>> ((2 : Int32) &&& 31).toUInt32).toInt32) &&& (255 : Int32))), .val (.int (((xi.toUInt32 >>> ((10 : Int32) &&& 31).toUInt32).toInt32) &&& (255 : Int32))), .unset] [(.int (((xi.toUInt32 >>> ((18 : Int32) &&& 31).toUInt32).toInt32) &&& (255 : Int32)))])) _
    refine own_go (fun t_ k_ => XS.i2c X0.here hx rfl (hb hby own_d1_31) rfl k_) ?_
    show own_Goes p e below (s₁.setTop (mkF m 32 #[.val (.int xi), .val (.int (0 : Int32)), .val (.int (((xi.toUInt32 >>> ((2 : Int32) &&& 31).toUInt32).toInt32) &&& (255 : Int32))), .val (.int (((xi.toUInt32 >>> ((10 : Int32) &&& 31).toUInt32).toInt32) &&& (255 : Int32))), .unset] [(.int ((((xi.toUInt32 >>> ((18 : Int32) &&& 31).toUInt32).toInt32) &&& (255 : Int32)).toUInt32.toUInt16.toUInt32.toInt32))])) _
    rw [i2c_mask]
    show own_Goes p e below (s₁.setTop (mkF m 32 #[.val (.int xi), .val (.int (0 : Int32)), .val (.int (((xi.toUInt32 >>> ((2 : Int32) &&& 31).toUInt32).toInt32) &&& (255 : Int32))), .val (.int (((xi.toUInt32 >>> ((10 : Int32) &&& 31).toUInt32).toInt32) &&& (255 : Int32))), .unset] [(.int (((xi.toUInt32 >>> ((18 : Int32) &&& 31).toUInt32).toInt32) &&& (255 : Int32)))])) _
    refine own_go (fun t_ k_ => XS.istore X0.here hx rfl (hb hby own_d1_32) rfl (l' := #[.val (.int xi), .val (.int (0 : Int32)), .val (.int (((xi.toUInt32 >>> ((2 : Int32) &&& 31).toUInt32).toInt32) &&& (255 : Int32))), .val (.int (((xi.toUInt32 >>> ((10 : Int32) &&& 31).toUInt32).toInt32) &&& (255 : Int32))), .val (.int (((xi.toUInt32 >>> ((18 : Int32) &&& 31).toUInt32).toInt32) &&& (255 : Int32)))]) rfl k_) ?_
    show own_Goes p e below (s₁.setTop (mkF m 34 #[.val (.int xi), .val (.int (0 : Int32)), .val (.int (((xi.toUInt32 >>> ((2 : Int32) &&& 31).toUInt32).toInt32) &&& (255 : Int32))), .val (.int (((xi.toUInt32 >>> ((10 : Int32) &&& 31).toUInt32).toInt32) &&& (255 : Int32))), .val (.int (((xi.toUInt32 >>> ((18 : Int32) &&& 31).toUInt32).toInt32) &&& (255 : Int32)))] [])) _
    refine own_go (fun t_ k_ => XS.iloadN X0.here hx rfl (hb hby own_d1_34) rfl k_) ?_
    show own_Goes p e below (s₁.setTop (mkF m 35 #[.val (.int xi), .val (.int (0 : Int32)), .val (.int (((xi.toUInt32 >>> ((2 : Int32) &&& 31).toUInt32).toInt32) &&& (255 : Int32))), .val (.int (((xi.toUInt32 >>> ((10 : Int32) &&& 31).toUInt32).toInt32) &&& (255 : Int32))), .val (.int (((xi.toUInt32 >>> ((18 : Int32) &&& 31).toUInt32).toInt32) &&& (255 : Int32)))] [(.int (0 : Int32))])) _
    refine own_go (fun t_ k_ => XS.ifNo X0.here hx rfl (hb hby own_d1_35) rfl ((if0 _ _).trans (teq (show ((0 : Int32) = (0 : Int32)) from by decide)).2) k_) ?_
    show own_Goes p e below (s₁.setTop (mkF m 38 #[.val (.int xi), .val (.int (0 : Int32)), .val (.int (((xi.toUInt32 >>> ((2 : Int32) &&& 31).toUInt32).toInt32) &&& (255 : Int32))), .val (.int (((xi.toUInt32 >>> ((10 : Int32) &&& 31).toUInt32).toInt32) &&& (255 : Int32))), .val (.int (((xi.toUInt32 >>> ((18 : Int32) &&& 31).toUInt32).toInt32) &&& (255 : Int32)))] [])) _
    obtain ⟨T5, h5, X5, e5, E5, A5, D5, -, st5⟩ := newO X0 hx hZ hown (hw _ (List.mem_of_getElem? (i := 4) rfl)) (hw _ (List.mem_of_getElem? (i := 5) rfl)) (hw _ (List.mem_of_getElem? (i := 6) rfl)) e0 (g := (mkF m 38 #[.val (.int xi), .val (.int (0 : Int32)), .val (.int (((xi.toUInt32 >>> ((2 : Int32) &&& 31).toUInt32).toInt32) &&& (255 : Int32))), .val (.int (((xi.toUInt32 >>> ((10 : Int32) &&& 31).toUInt32).toInt32) &&& (255 : Int32))), .val (.int (((xi.toUInt32 >>> ((18 : Int32) &&& 31).toUInt32).toInt32) &&& (255 : Int32)))] [])) rfl (hb hby own_d1_38) (by decide) (by decide)
    obtain ⟨b5, g5⟩ : ∃ z, z = h0.size := ⟨_, rfl⟩
    rw [← g5] at A5 D5 st5
    refine own_go st5 ?_
    have O6 := O0.ext E5
    have sz7 : h0.size ≤ h5.size := E5.1
    have cs8 := CHr.ext E5 CR0.1
    have CR9 := CHr.trans CR0 cs8
    have hk10 := Nat.le_trans hk0 E5.1
    have K11 := K0.ext E5
    have l5 : @LT.lt Nat _ b5 h5.size := A5.lt
    have F5_coder : Fld Z h5 b5 "java/lang/String" "coder" "B" (.int (0 : Int32)) := D5 (Or.inr (hw _ (List.mem_of_getElem? (i := 31) rfl))) (ty := .byte) (by decide)
    have F5_value : Fld Z h5 b5 "java/lang/String" "value" "[B" .null := D5 (Or.inr (hw _ (List.mem_of_getElem? (i := 33) rfl))) (ty := (.array .byte)) (by decide)
    show own_Goes p e below (T5.setTop (mkF m 41 #[.val (.int xi), .val (.int (0 : Int32)), .val (.int (((xi.toUInt32 >>> ((2 : Int32) &&& 31).toUInt32).toInt32) &&& (255 : Int32))), .val (.int (((xi.toUInt32 >>> ((10 : Int32) &&& 31).toUInt32).toInt32) &&& (255 : Int32))), .val (.int (((xi.toUInt32 >>> ((18 : Int32) &&& 31).toUInt32).toInt32) &&& (255 : Int32)))] [(.ref b5)])) _
    refine own_go (fun t_ k_ => XS.dup X5.here hx rfl (hb hby own_d1_41) rfl rfl k_) ?_
    show own_Goes p e below (T5.setTop (mkF m 42 #[.val (.int xi), .val (.int (0 : Int32)), .val (.int (((xi.toUInt32 >>> ((2 : Int32) &&& 31).toUInt32).toInt32) &&& (255 : Int32))), .val (.int (((xi.toUInt32 >>> ((10 : Int32) &&& 31).toUInt32).toInt32) &&& (255 : Int32))), .val (.int (((xi.toUInt32 >>> ((18 : Int32) &&& 31).toUInt32).toInt32) &&& (255 : Int32)))] [(.ref b5), (.ref b5)])) _
    refine own_go (fun t_ k_ => XS.iconst X5.here hx rfl (hb hby own_d1_42) k_) ?_
    show own_Goes p e below (T5.setTop (mkF m 43 #[.val (.int xi), .val (.int (0 : Int32)), .val (.int (((xi.toUInt32 >>> ((2 : Int32) &&& 31).toUInt32).toInt32) &&& (255 : Int32))), .val (.int (((xi.toUInt32 >>> ((10 : Int32) &&& 31).toUInt32).toInt32) &&& (255 : Int32))), .val (.int (((xi.toUInt32 >>> ((18 : Int32) &&& 31).toUInt32).toInt32) &&& (255 : Int32)))] [(.int (0 : Int32)), (.ref b5), (.ref b5)])) _
    obtain ⟨T12, h12, k12, X12, e12, E12, A12, st12⟩ := newP X5 hx hZ (hw _ (List.mem_of_getElem? (i := 7) rfl)) e5 (g := (mkF m 43 #[.val (.int xi), .val (.int (0 : Int32)), .val (.int (((xi.toUInt32 >>> ((2 : Int32) &&& 31).toUInt32).toInt32) &&& (255 : Int32))), .val (.int (((xi.toUInt32 >>> ((10 : Int32) &&& 31).toUInt32).toInt32) &&& (255 : Int32))), .val (.int (((xi.toUInt32 >>> ((18 : Int32) &&& 31).toUInt32).toInt32) &&& (255 : Int32)))] [(.int (0 : Int32)), (.ref b5), (.ref b5)])) rfl (hb hby own_d1_43) rfl (by decide) (cap := 0) (by decide) (by decide) (by decide) (by decide)
    obtain ⟨b12, g12⟩ : ∃ z, z = h5.size := ⟨_, rfl⟩
    rw [← g12] at A12 st12
    refine own_go st12 ?_
    have O13 := O6.ext E12
    have sz14 : h5.size ≤ h12.size := E12.1
    have cs15 := CHr.ext E12 CR9.1
    have CR16 := CHr.trans CR9 cs15
    have hk17 := Nat.le_trans hk10 E12.1
    have K18 := K11.ext E12
    have l12 : @LT.lt Nat _ b12 h12.size := A12.lt
    have V12 : Arv Z h12 b12 k12 .char (0 : Int32) [] (.int (0 : Int32)) := (Arv.new A12 (by decide)).pad (pad_rep [] (.int (0 : Int32)) 0)
    show own_Goes p e below (T12.setTop (mkF m 45 #[.val (.int xi), .val (.int (0 : Int32)), .val (.int (((xi.toUInt32 >>> ((2 : Int32) &&& 31).toUInt32).toInt32) &&& (255 : Int32))), .val (.int (((xi.toUInt32 >>> ((10 : Int32) &&& 31).toUInt32).toInt32) &&& (255 : Int32))), .val (.int (((xi.toUInt32 >>> ((18 : Int32) &&& 31).toUInt32).toInt32) &&& (255 : Int32)))] [(.ref b12), (.ref b5), (.ref b5)])) _
    have f19 := (A5.ext E12)
    have f20 := (F5_value.ext E12)
    have f21 := (F5_coder.ext E12)
    obtain ⟨_, _, ⟨T22, L22, k22, n22⟩, -, X22, hS22, gr22, ⟨Lc22, hQ22, l22, y22, z22, cs22⟩, st22⟩ := X12.specialBackS hx (y := own_m3) rfl hown (mvT hZ (hw _ (List.mem_of_getElem? (i := 8) rfl))) (mvT hZ (hw _ (List.mem_of_getElem? (i := 9) rfl))) (mvT hZ (hw _ (List.mem_of_getElem? (i := 10) rfl))) (by decide) (backOfSH (W := 1) (own_strInit0 l Z a0 hw [] b5 b12 k12 h12 n0 O13 f19 f20 f21 (show n0 ≤ b5 by first | assumption | omega | decide) V12) hZ (hw _ (List.mem_of_getElem? (i := 10) rfl)) (hw _ (List.mem_of_getElem? (i := 6) rfl)) (by decide) (by decide) (own_EW hw) CR16.1) (g := (mkF m 45 #[.val (.int xi), .val (.int (0 : Int32)), .val (.int (((xi.toUInt32 >>> ((2 : Int32) &&& 31).toUInt32).toInt32) &&& (255 : Int32))), .val (.int (((xi.toUInt32 >>> ((10 : Int32) &&& 31).toUInt32).toInt32) &&& (255 : Int32))), .val (.int (((xi.toUInt32 >>> ((18 : Int32) &&& 31).toUInt32).toInt32) &&& (255 : Int32)))] [(.ref b12), (.ref b5), (.ref b5)])) rfl (by rw [hml]; rfl) (Steps.refl _) (a := b5) (argsL := [(.ref b12)]) (rest := [(.ref b5)]) (lenOf own_pd_2 rfl) rfl (by show 2 * 0 + _ ≤ _; exact Nat.le_of_eq rfl) (hb hby own_d1_45) (fun _ _ => ⟨rfl, e12, (by decide : 2 + 4 ≤ _), (by decide : 4 + 8 ≤ _)⟩)
    dsimp only [Pt.U, Pt.locs, Pt.cells, Pt.slots] at X22 l22 y22 z22 st22 hQ22 hS22 gr22 cs22
    subst l22 y22 z22
    obtain ⟨h22, e22⟩ : ∃ z, T22.heap = z := ⟨_, rfl⟩
    rw [e22] at hQ22 hS22 gr22 cs22
    obtain ⟨Nc22, Kc22, rb_22, rk_22, rfl, c22_0, c22_1, c22_2, c22_3⟩ := hQ22
    obtain ⟨X22, hS22, hZ22, hown22⟩ := rebS (own := "com/example/saasy/saasy/ledger/SchemaStepOfPinLaw") hS0 (show _ ≤ T12.heap.size by rw [e12]; exact hk17) X22 hS22 gr22 hZ hown
    have hk22 : h22.size ≤ h22.size := Nat.le_refl _
    have N22 := Fr.app N0 Nc22
    have O23 := O13.keep Kc22 (allS (show n0 ≤ b5 by omega) all0)
    have sz24 : h12.size ≤ h22.size := Kc22.1
    have CR25 := CHr.trans CR16 cs22
    have K26 := Keep.trans K18 Kc22 (allS (Or.inr (show h0.size ≤ b5 by omega)) all0)
    have ltc22_0 : @LT.lt Nat _ b5 h22.size := c22_0.lt
    have ltc22_3 : @LT.lt Nat _ rb_22 h22.size := c22_3.lt
    refine own_goS st22 ?_
    show own_Goes p e below (T22.setTop (mkF m 48 #[.val (.int xi), .val (.int (0 : Int32)), .val (.int (((xi.toUInt32 >>> ((2 : Int32) &&& 31).toUInt32).toInt32) &&& (255 : Int32))), .val (.int (((xi.toUInt32 >>> ((10 : Int32) &&& 31).toUInt32).toInt32) &&& (255 : Int32))), .val (.int (((xi.toUInt32 >>> ((18 : Int32) &&& 31).toUInt32).toInt32) &&& (255 : Int32)))] [(.ref b5)])) _
    refine own_endH X22 hS22 (show _ ≤ T22.heap.size by rw [e22]; exact hk22) e22 hh CR25 hZ22 (own_EW hw) (v := (some (.ref b5))) (fun h => by rw [hret] at h; cases h) hlk (by decide) (by decide) ?_ (fun fs hr => retOut X22 hx hret rfl (Or.inr (Or.inr (Or.inr (Or.inr ⟨rfl, rfl, rfl⟩)))) (hb hby own_d1_48) hr)
    show Q_own_str Z xi gz gwE gwO gwA gk h0 n0 _ T22.heap _
    rw [e22]
    exact ⟨N22, K26, b5, rfl, c22_0, (show h0.size ≤ b5 by first | assumption | omega | decide)⟩
  · rw [hl2]
    show own_Goes p e below (s₁.setTop (mkF m 3 #[.val (.int xi), .unset, .unset, .unset, .unset] [(.int (1 : Int32))])) _
    refine own_go (fun t_ k_ => XS.istoreN X0.here hx rfl (hb hby own_d1_3) rfl (l' := #[.val (.int xi), .val (.int (1 : Int32)), .unset, .unset, .unset]) rfl k_) ?_
    show own_Goes p e below (s₁.setTop (mkF m 4 #[.val (.int xi), .val (.int (1 : Int32)), .unset, .unset, .unset] [])) _
    refine own_go (fun t_ k_ => XS.iloadN X0.here hx rfl (hb hby own_d1_4) rfl k_) ?_
    show own_Goes p e below (s₁.setTop (mkF m 5 #[.val (.int xi), .val (.int (1 : Int32)), .unset, .unset, .unset] [(.int xi)])) _
    refine own_go (fun t_ k_ => XS.iconst X0.here hx rfl (hb hby own_d1_5) k_) ?_
    show own_Goes p e below (s₁.setTop (mkF m 6 #[.val (.int xi), .val (.int (1 : Int32)), .unset, .unset, .unset] [(.int (2 : Int32)), (.int xi)])) _
    refine own_go (fun t_ k_ => XS.iushr X0.here hx rfl (hb hby own_d1_6) rfl k_) ?_
    show own_Goes p e below (s₁.setTop (mkF m 7 #[.val (.int xi), .val (.int (1 : Int32)), .unset, .unset, .unset] [(.int ((xi.toUInt32 >>> ((2 : Int32) &&& 31).toUInt32).toInt32))])) _
    refine own_go (fun t_ k_ => XS.sipush X0.here hx rfl (hb hby own_d1_7) k_) ?_
    show own_Goes p e below (s₁.setTop (mkF m 10 #[.val (.int xi), .val (.int (1 : Int32)), .unset, .unset, .unset] [(.int (255 : Int32)), (.int ((xi.toUInt32 >>> ((2 : Int32) &&& 31).toUInt32).toInt32))])) _
    refine own_go (fun t_ k_ => XS.iand X0.here hx rfl (hb hby own_d1_10) rfl k_) ?_
    show own_Goes p e below (s₁.setTop (mkF m 11 #[.val (.int xi), .val (.int (1 : Int32)), .unset, .unset, .unset] [(.int (((xi.toUInt32 >>> ((2 : Int32) &&& 31).toUInt32).toInt32) &&& (255 : Int32)))])) _
    refine own_go (fun t_ k_ => XS.i2c X0.here hx rfl (hb hby own_d1_11) rfl k_) ?_
    show own_Goes p e below (s₁.setTop (mkF m 12 #[.val (.int xi), .val (.int (1 : Int32)), .unset, .unset, .unset] [(.int ((((xi.toUInt32 >>> ((2 : Int32) &&& 31).toUInt32).toInt32) &&& (255 : Int32)).toUInt32.toUInt16.toUInt32.toInt32))])) _
    rw [i2c_mask]
    show own_Goes p e below (s₁.setTop (mkF m 12 #[.val (.int xi), .val (.int (1 : Int32)), .unset, .unset, .unset] [(.int (((xi.toUInt32 >>> ((2 : Int32) &&& 31).toUInt32).toInt32) &&& (255 : Int32)))])) _
    refine own_go (fun t_ k_ => XS.istoreN X0.here hx rfl (hb hby own_d1_12) rfl (l' := #[.val (.int xi), .val (.int (1 : Int32)), .val (.int (((xi.toUInt32 >>> ((2 : Int32) &&& 31).toUInt32).toInt32) &&& (255 : Int32))), .unset, .unset]) rfl k_) ?_
    show own_Goes p e below (s₁.setTop (mkF m 13 #[.val (.int xi), .val (.int (1 : Int32)), .val (.int (((xi.toUInt32 >>> ((2 : Int32) &&& 31).toUInt32).toInt32) &&& (255 : Int32))), .unset, .unset] [])) _
    refine own_go (fun t_ k_ => XS.iloadN X0.here hx rfl (hb hby own_d1_13) rfl k_) ?_
    show own_Goes p e below (s₁.setTop (mkF m 14 #[.val (.int xi), .val (.int (1 : Int32)), .val (.int (((xi.toUInt32 >>> ((2 : Int32) &&& 31).toUInt32).toInt32) &&& (255 : Int32))), .unset, .unset] [(.int xi)])) _
    refine own_go (fun t_ k_ => XS.bipush X0.here hx rfl (hb hby own_d1_14) k_) ?_
    show own_Goes p e below (s₁.setTop (mkF m 16 #[.val (.int xi), .val (.int (1 : Int32)), .val (.int (((xi.toUInt32 >>> ((2 : Int32) &&& 31).toUInt32).toInt32) &&& (255 : Int32))), .unset, .unset] [(.int (10 : Int32)), (.int xi)])) _
    refine own_go (fun t_ k_ => XS.iushr X0.here hx rfl (hb hby own_d1_16) rfl k_) ?_
    show own_Goes p e below (s₁.setTop (mkF m 17 #[.val (.int xi), .val (.int (1 : Int32)), .val (.int (((xi.toUInt32 >>> ((2 : Int32) &&& 31).toUInt32).toInt32) &&& (255 : Int32))), .unset, .unset] [(.int ((xi.toUInt32 >>> ((10 : Int32) &&& 31).toUInt32).toInt32))])) _
    refine own_go (fun t_ k_ => XS.sipush X0.here hx rfl (hb hby own_d1_17) k_) ?_
    show own_Goes p e below (s₁.setTop (mkF m 20 #[.val (.int xi), .val (.int (1 : Int32)), .val (.int (((xi.toUInt32 >>> ((2 : Int32) &&& 31).toUInt32).toInt32) &&& (255 : Int32))), .unset, .unset] [(.int (255 : Int32)), (.int ((xi.toUInt32 >>> ((10 : Int32) &&& 31).toUInt32).toInt32))])) _
    refine own_go (fun t_ k_ => XS.iand X0.here hx rfl (hb hby own_d1_20) rfl k_) ?_
    show own_Goes p e below (s₁.setTop (mkF m 21 #[.val (.int xi), .val (.int (1 : Int32)), .val (.int (((xi.toUInt32 >>> ((2 : Int32) &&& 31).toUInt32).toInt32) &&& (255 : Int32))), .unset, .unset] [(.int (((xi.toUInt32 >>> ((10 : Int32) &&& 31).toUInt32).toInt32) &&& (255 : Int32)))])) _
    refine own_go (fun t_ k_ => XS.i2c X0.here hx rfl (hb hby own_d1_21) rfl k_) ?_
    show own_Goes p e below (s₁.setTop (mkF m 22 #[.val (.int xi), .val (.int (1 : Int32)), .val (.int (((xi.toUInt32 >>> ((2 : Int32) &&& 31).toUInt32).toInt32) &&& (255 : Int32))), .unset, .unset] [(.int ((((xi.toUInt32 >>> ((10 : Int32) &&& 31).toUInt32).toInt32) &&& (255 : Int32)).toUInt32.toUInt16.toUInt32.toInt32))])) _
    rw [i2c_mask]
    show own_Goes p e below (s₁.setTop (mkF m 22 #[.val (.int xi), .val (.int (1 : Int32)), .val (.int (((xi.toUInt32 >>> ((2 : Int32) &&& 31).toUInt32).toInt32) &&& (255 : Int32))), .unset, .unset] [(.int (((xi.toUInt32 >>> ((10 : Int32) &&& 31).toUInt32).toInt32) &&& (255 : Int32)))])) _
    refine own_go (fun t_ k_ => XS.istoreN X0.here hx rfl (hb hby own_d1_22) rfl (l' := #[.val (.int xi), .val (.int (1 : Int32)), .val (.int (((xi.toUInt32 >>> ((2 : Int32) &&& 31).toUInt32).toInt32) &&& (255 : Int32))), .val (.int (((xi.toUInt32 >>> ((10 : Int32) &&& 31).toUInt32).toInt32) &&& (255 : Int32))), .unset]) rfl k_) ?_
    show own_Goes p e below (s₁.setTop (mkF m 23 #[.val (.int xi), .val (.int (1 : Int32)), .val (.int (((xi.toUInt32 >>> ((2 : Int32) &&& 31).toUInt32).toInt32) &&& (255 : Int32))), .val (.int (((xi.toUInt32 >>> ((10 : Int32) &&& 31).toUInt32).toInt32) &&& (255 : Int32))), .unset] [])) _
    refine own_go (fun t_ k_ => XS.iloadN X0.here hx rfl (hb hby own_d1_23) rfl k_) ?_
    show own_Goes p e below (s₁.setTop (mkF m 24 #[.val (.int xi), .val (.int (1 : Int32)), .val (.int (((xi.toUInt32 >>> ((2 : Int32) &&& 31).toUInt32).toInt32) &&& (255 : Int32))), .val (.int (((xi.toUInt32 >>> ((10 : Int32) &&& 31).toUInt32).toInt32) &&& (255 : Int32))), .unset] [(.int xi)])) _
    refine own_go (fun t_ k_ => XS.bipush X0.here hx rfl (hb hby own_d1_24) k_) ?_
    show own_Goes p e below (s₁.setTop (mkF m 26 #[.val (.int xi), .val (.int (1 : Int32)), .val (.int (((xi.toUInt32 >>> ((2 : Int32) &&& 31).toUInt32).toInt32) &&& (255 : Int32))), .val (.int (((xi.toUInt32 >>> ((10 : Int32) &&& 31).toUInt32).toInt32) &&& (255 : Int32))), .unset] [(.int (18 : Int32)), (.int xi)])) _
    refine own_go (fun t_ k_ => XS.iushr X0.here hx rfl (hb hby own_d1_26) rfl k_) ?_
    show own_Goes p e below (s₁.setTop (mkF m 27 #[.val (.int xi), .val (.int (1 : Int32)), .val (.int (((xi.toUInt32 >>> ((2 : Int32) &&& 31).toUInt32).toInt32) &&& (255 : Int32))), .val (.int (((xi.toUInt32 >>> ((10 : Int32) &&& 31).toUInt32).toInt32) &&& (255 : Int32))), .unset] [(.int ((xi.toUInt32 >>> ((18 : Int32) &&& 31).toUInt32).toInt32))])) _
    refine own_go (fun t_ k_ => XS.sipush X0.here hx rfl (hb hby own_d1_27) k_) ?_
    show own_Goes p e below (s₁.setTop (mkF m 30 #[.val (.int xi), .val (.int (1 : Int32)), .val (.int (((xi.toUInt32 >>> ((2 : Int32) &&& 31).toUInt32).toInt32) &&& (255 : Int32))), .val (.int (((xi.toUInt32 >>> ((10 : Int32) &&& 31).toUInt32).toInt32) &&& (255 : Int32))), .unset] [(.int (255 : Int32)), (.int ((xi.toUInt32 >>> ((18 : Int32) &&& 31).toUInt32).toInt32))])) _
    refine own_go (fun t_ k_ => XS.iand X0.here hx rfl (hb hby own_d1_30) rfl k_) ?_
    show own_Goes p e below (s₁.setTop (mkF m 31 #[.val (.int xi), .val (.int (1 : Int32)), .val (.int (((xi.toUInt32 >>> ((2 : Int32) &&& 31).toUInt32).toInt32) &&& (255 : Int32))), .val (.int (((xi.toUInt32 >>> ((10 : Int32) &&& 31).toUInt32).toInt32) &&& (255 : Int32))), .unset] [(.int (((xi.toUInt32 >>> ((18 : Int32) &&& 31).toUInt32).toInt32) &&& (255 : Int32)))])) _
    refine own_go (fun t_ k_ => XS.i2c X0.here hx rfl (hb hby own_d1_31) rfl k_) ?_
    show own_Goes p e below (s₁.setTop (mkF m 32 #[.val (.int xi), .val (.int (1 : Int32)), .val (.int (((xi.toUInt32 >>> ((2 : Int32) &&& 31).toUInt32).toInt32) &&& (255 : Int32))), .val (.int (((xi.toUInt32 >>> ((10 : Int32) &&& 31).toUInt32).toInt32) &&& (255 : Int32))), .unset] [(.int ((((xi.toUInt32 >>> ((18 : Int32) &&& 31).toUInt32).toInt32) &&& (255 : Int32)).toUInt32.toUInt16.toUInt32.toInt32))])) _
    rw [i2c_mask]
    show own_Goes p e below (s₁.setTop (mkF m 32 #[.val (.int xi), .val (.int (1 : Int32)), .val (.int (((xi.toUInt32 >>> ((2 : Int32) &&& 31).toUInt32).toInt32) &&& (255 : Int32))), .val (.int (((xi.toUInt32 >>> ((10 : Int32) &&& 31).toUInt32).toInt32) &&& (255 : Int32))), .unset] [(.int (((xi.toUInt32 >>> ((18 : Int32) &&& 31).toUInt32).toInt32) &&& (255 : Int32)))])) _
    refine own_go (fun t_ k_ => XS.istore X0.here hx rfl (hb hby own_d1_32) rfl (l' := #[.val (.int xi), .val (.int (1 : Int32)), .val (.int (((xi.toUInt32 >>> ((2 : Int32) &&& 31).toUInt32).toInt32) &&& (255 : Int32))), .val (.int (((xi.toUInt32 >>> ((10 : Int32) &&& 31).toUInt32).toInt32) &&& (255 : Int32))), .val (.int (((xi.toUInt32 >>> ((18 : Int32) &&& 31).toUInt32).toInt32) &&& (255 : Int32)))]) rfl k_) ?_
    show own_Goes p e below (s₁.setTop (mkF m 34 #[.val (.int xi), .val (.int (1 : Int32)), .val (.int (((xi.toUInt32 >>> ((2 : Int32) &&& 31).toUInt32).toInt32) &&& (255 : Int32))), .val (.int (((xi.toUInt32 >>> ((10 : Int32) &&& 31).toUInt32).toInt32) &&& (255 : Int32))), .val (.int (((xi.toUInt32 >>> ((18 : Int32) &&& 31).toUInt32).toInt32) &&& (255 : Int32)))] [])) _
    refine own_go (fun t_ k_ => XS.iloadN X0.here hx rfl (hb hby own_d1_34) rfl k_) ?_
    show own_Goes p e below (s₁.setTop (mkF m 35 #[.val (.int xi), .val (.int (1 : Int32)), .val (.int (((xi.toUInt32 >>> ((2 : Int32) &&& 31).toUInt32).toInt32) &&& (255 : Int32))), .val (.int (((xi.toUInt32 >>> ((10 : Int32) &&& 31).toUInt32).toInt32) &&& (255 : Int32))), .val (.int (((xi.toUInt32 >>> ((18 : Int32) &&& 31).toUInt32).toInt32) &&& (255 : Int32)))] [(.int (1 : Int32))])) _
    refine own_go (fun t_ k_ => XS.ifYes X0.here hx rfl (pc0 := 35) (pc' := 49) rfl (hb hby own_d1_35) rfl ((if0 _ _).trans (feq (show ¬ ((1 : Int32) = (0 : Int32)) from by decide)).2) (by decide) (by decide) k_) ?_
    show own_Goes p e below (s₁.setTop (mkF m 49 #[.val (.int xi), .val (.int (1 : Int32)), .val (.int (((xi.toUInt32 >>> ((2 : Int32) &&& 31).toUInt32).toInt32) &&& (255 : Int32))), .val (.int (((xi.toUInt32 >>> ((10 : Int32) &&& 31).toUInt32).toInt32) &&& (255 : Int32))), .val (.int (((xi.toUInt32 >>> ((18 : Int32) &&& 31).toUInt32).toInt32) &&& (255 : Int32)))] [])) _
    refine own_go (fun t_ k_ => XS.iloadN X0.here hx rfl (hb hby own_d1_49) rfl k_) ?_
    show own_Goes p e below (s₁.setTop (mkF m 50 #[.val (.int xi), .val (.int (1 : Int32)), .val (.int (((xi.toUInt32 >>> ((2 : Int32) &&& 31).toUInt32).toInt32) &&& (255 : Int32))), .val (.int (((xi.toUInt32 >>> ((10 : Int32) &&& 31).toUInt32).toInt32) &&& (255 : Int32))), .val (.int (((xi.toUInt32 >>> ((18 : Int32) &&& 31).toUInt32).toInt32) &&& (255 : Int32)))] [(.int (1 : Int32))])) _
    refine own_go (fun t_ k_ => XS.iconst X0.here hx rfl (hb hby own_d1_50) k_) ?_
    show own_Goes p e below (s₁.setTop (mkF m 51 #[.val (.int xi), .val (.int (1 : Int32)), .val (.int (((xi.toUInt32 >>> ((2 : Int32) &&& 31).toUInt32).toInt32) &&& (255 : Int32))), .val (.int (((xi.toUInt32 >>> ((10 : Int32) &&& 31).toUInt32).toInt32) &&& (255 : Int32))), .val (.int (((xi.toUInt32 >>> ((18 : Int32) &&& 31).toUInt32).toInt32) &&& (255 : Int32)))] [(.int (1 : Int32)), (.int (1 : Int32))])) _
    refine own_go (fun t_ k_ => XS.icmpNo X0.here hx rfl (hb hby own_d1_51) rfl (teq (show ((1 : Int32) = (1 : Int32)) from by decide)).2 k_) ?_
    show own_Goes p e below (s₁.setTop (mkF m 54 #[.val (.int xi), .val (.int (1 : Int32)), .val (.int (((xi.toUInt32 >>> ((2 : Int32) &&& 31).toUInt32).toInt32) &&& (255 : Int32))), .val (.int (((xi.toUInt32 >>> ((10 : Int32) &&& 31).toUInt32).toInt32) &&& (255 : Int32))), .val (.int (((xi.toUInt32 >>> ((18 : Int32) &&& 31).toUInt32).toInt32) &&& (255 : Int32)))] [])) _
    obtain ⟨T27, h27, X27, e27, E27, A27, D27, -, st27⟩ := newO X0 hx hZ hown (hw _ (List.mem_of_getElem? (i := 4) rfl)) (hw _ (List.mem_of_getElem? (i := 5) rfl)) (hw _ (List.mem_of_getElem? (i := 6) rfl)) e0 (g := (mkF m 54 #[.val (.int xi), .val (.int (1 : Int32)), .val (.int (((xi.toUInt32 >>> ((2 : Int32) &&& 31).toUInt32).toInt32) &&& (255 : Int32))), .val (.int (((xi.toUInt32 >>> ((10 : Int32) &&& 31).toUInt32).toInt32) &&& (255 : Int32))), .val (.int (((xi.toUInt32 >>> ((18 : Int32) &&& 31).toUInt32).toInt32) &&& (255 : Int32)))] [])) rfl (hb hby own_d1_54) (by decide) (by decide)
    obtain ⟨b27, g27⟩ : ∃ z, z = h0.size := ⟨_, rfl⟩
    rw [← g27] at A27 D27 st27
    refine own_go st27 ?_
    have O28 := O0.ext E27
    have sz29 : h0.size ≤ h27.size := E27.1
    have cs30 := CHr.ext E27 CR0.1
    have CR31 := CHr.trans CR0 cs30
    have hk32 := Nat.le_trans hk0 E27.1
    have K33 := K0.ext E27
    have l27 : @LT.lt Nat _ b27 h27.size := A27.lt
    have F27_coder : Fld Z h27 b27 "java/lang/String" "coder" "B" (.int (0 : Int32)) := D27 (Or.inr (hw _ (List.mem_of_getElem? (i := 31) rfl))) (ty := .byte) (by decide)
    have F27_value : Fld Z h27 b27 "java/lang/String" "value" "[B" .null := D27 (Or.inr (hw _ (List.mem_of_getElem? (i := 33) rfl))) (ty := (.array .byte)) (by decide)
    show own_Goes p e below (T27.setTop (mkF m 57 #[.val (.int xi), .val (.int (1 : Int32)), .val (.int (((xi.toUInt32 >>> ((2 : Int32) &&& 31).toUInt32).toInt32) &&& (255 : Int32))), .val (.int (((xi.toUInt32 >>> ((10 : Int32) &&& 31).toUInt32).toInt32) &&& (255 : Int32))), .val (.int (((xi.toUInt32 >>> ((18 : Int32) &&& 31).toUInt32).toInt32) &&& (255 : Int32)))] [(.ref b27)])) _
    refine own_go (fun t_ k_ => XS.dup X27.here hx rfl (hb hby own_d1_57) rfl rfl k_) ?_
    show own_Goes p e below (T27.setTop (mkF m 58 #[.val (.int xi), .val (.int (1 : Int32)), .val (.int (((xi.toUInt32 >>> ((2 : Int32) &&& 31).toUInt32).toInt32) &&& (255 : Int32))), .val (.int (((xi.toUInt32 >>> ((10 : Int32) &&& 31).toUInt32).toInt32) &&& (255 : Int32))), .val (.int (((xi.toUInt32 >>> ((18 : Int32) &&& 31).toUInt32).toInt32) &&& (255 : Int32)))] [(.ref b27), (.ref b27)])) _
    refine own_go (fun t_ k_ => XS.iconst X27.here hx rfl (hb hby own_d1_58) k_) ?_
    show own_Goes p e below (T27.setTop (mkF m 59 #[.val (.int xi), .val (.int (1 : Int32)), .val (.int (((xi.toUInt32 >>> ((2 : Int32) &&& 31).toUInt32).toInt32) &&& (255 : Int32))), .val (.int (((xi.toUInt32 >>> ((10 : Int32) &&& 31).toUInt32).toInt32) &&& (255 : Int32))), .val (.int (((xi.toUInt32 >>> ((18 : Int32) &&& 31).toUInt32).toInt32) &&& (255 : Int32)))] [(.int (1 : Int32)), (.ref b27), (.ref b27)])) _
    obtain ⟨T34, h34, k34, X34, e34, E34, A34, st34⟩ := newP X27 hx hZ (hw _ (List.mem_of_getElem? (i := 7) rfl)) e27 (g := (mkF m 59 #[.val (.int xi), .val (.int (1 : Int32)), .val (.int (((xi.toUInt32 >>> ((2 : Int32) &&& 31).toUInt32).toInt32) &&& (255 : Int32))), .val (.int (((xi.toUInt32 >>> ((10 : Int32) &&& 31).toUInt32).toInt32) &&& (255 : Int32))), .val (.int (((xi.toUInt32 >>> ((18 : Int32) &&& 31).toUInt32).toInt32) &&& (255 : Int32)))] [(.int (1 : Int32)), (.ref b27), (.ref b27)])) rfl (hb hby own_d1_59) rfl (by decide) (cap := 1) (by decide) (by decide) (by decide) (by decide)
    obtain ⟨b34, g34⟩ : ∃ z, z = h27.size := ⟨_, rfl⟩
    rw [← g34] at A34 st34
    refine own_go st34 ?_
    have O35 := O28.ext E34
    have sz36 : h27.size ≤ h34.size := E34.1
    have cs37 := CHr.ext E34 CR31.1
    have CR38 := CHr.trans CR31 cs37
    have hk39 := Nat.le_trans hk32 E34.1
    have K40 := K33.ext E34
    have l34 : @LT.lt Nat _ b34 h34.size := A34.lt
    have V34 : Arv Z h34 b34 k34 .char (1 : Int32) [(.int (0 : Int32))] (.int (0 : Int32)) := (Arv.new A34 (by decide)).pad (pad_rep [] (.int (0 : Int32)) 1)
    show own_Goes p e below (T34.setTop (mkF m 61 #[.val (.int xi), .val (.int (1 : Int32)), .val (.int (((xi.toUInt32 >>> ((2 : Int32) &&& 31).toUInt32).toInt32) &&& (255 : Int32))), .val (.int (((xi.toUInt32 >>> ((10 : Int32) &&& 31).toUInt32).toInt32) &&& (255 : Int32))), .val (.int (((xi.toUInt32 >>> ((18 : Int32) &&& 31).toUInt32).toInt32) &&& (255 : Int32)))] [(.ref b34), (.ref b27), (.ref b27)])) _
    refine own_go (fun t_ k_ => XS.dup X34.here hx rfl (hb hby own_d1_61) rfl rfl k_) ?_
    show own_Goes p e below (T34.setTop (mkF m 62 #[.val (.int xi), .val (.int (1 : Int32)), .val (.int (((xi.toUInt32 >>> ((2 : Int32) &&& 31).toUInt32).toInt32) &&& (255 : Int32))), .val (.int (((xi.toUInt32 >>> ((10 : Int32) &&& 31).toUInt32).toInt32) &&& (255 : Int32))), .val (.int (((xi.toUInt32 >>> ((18 : Int32) &&& 31).toUInt32).toInt32) &&& (255 : Int32)))] [(.ref b34), (.ref b34), (.ref b27), (.ref b27)])) _
    refine own_go (fun t_ k_ => XS.iconst X34.here hx rfl (hb hby own_d1_62) k_) ?_
    show own_Goes p e below (T34.setTop (mkF m 63 #[.val (.int xi), .val (.int (1 : Int32)), .val (.int (((xi.toUInt32 >>> ((2 : Int32) &&& 31).toUInt32).toInt32) &&& (255 : Int32))), .val (.int (((xi.toUInt32 >>> ((10 : Int32) &&& 31).toUInt32).toInt32) &&& (255 : Int32))), .val (.int (((xi.toUInt32 >>> ((18 : Int32) &&& 31).toUInt32).toInt32) &&& (255 : Int32)))] [(.int (0 : Int32)), (.ref b34), (.ref b34), (.ref b27), (.ref b27)])) _
    refine own_go (fun t_ k_ => XS.iloadN X34.here hx rfl (hb hby own_d1_63) rfl k_) ?_
    show own_Goes p e below (T34.setTop (mkF m 64 #[.val (.int xi), .val (.int (1 : Int32)), .val (.int (((xi.toUInt32 >>> ((2 : Int32) &&& 31).toUInt32).toInt32) &&& (255 : Int32))), .val (.int (((xi.toUInt32 >>> ((10 : Int32) &&& 31).toUInt32).toInt32) &&& (255 : Int32))), .val (.int (((xi.toUInt32 >>> ((18 : Int32) &&& 31).toUInt32).toInt32) &&& (255 : Int32)))] [(.int (((xi.toUInt32 >>> ((2 : Int32) &&& 31).toUInt32).toInt32) &&& (255 : Int32))), (.int (0 : Int32)), (.ref b34), (.ref b34), (.ref b27), (.ref b27)])) _
    obtain ⟨clu41, Aru41, qu41, Szu41, Ngu41, Hsu41, Gsu41⟩ := id V34
    have inu41 : ¬ ((0 : Int32) < 0 ∨ clu41.slots.size ≤ ((0 : Int32)).toNatClampNeg) := inb_of Szu41 ⟨by decide, by decide⟩
    obtain ⟨T42, h42, X42, e42, W42, st42⟩ := stC X34 hx hZ e34 Aru41 (j := (0 : Int32)) inu41 (g := (mkF m 64 #[.val (.int xi), .val (.int (1 : Int32)), .val (.int (((xi.toUInt32 >>> ((2 : Int32) &&& 31).toUInt32).toInt32) &&& (255 : Int32))), .val (.int (((xi.toUInt32 >>> ((10 : Int32) &&& 31).toUInt32).toInt32) &&& (255 : Int32))), .val (.int (((xi.toUInt32 >>> ((18 : Int32) &&& 31).toUInt32).toInt32) &&& (255 : Int32)))] [(.int (((xi.toUInt32 >>> ((2 : Int32) &&& 31).toUInt32).toInt32) &&& (255 : Int32))), (.int (0 : Int32)), (.ref b34), (.ref b34), (.ref b27), (.ref b27)])) rfl rfl (hb hby own_d1_64)
    refine own_go st42 ?_
    have V42 := Arv.set Aru41 qu41 Szu41 Ngu41 Hsu41 Gsu41 (fits_nar_char _) W42 0 rfl (Nat.le_of_ble_eq_true rfl)
    rw [own_narM] at V42
    have O43 := O35.wr W42 (show n0 ≤ b34 by omega)
    have sz44 : h42.size = h34.size := Wr.size W42
    have cs45 := CHr.wr W42 (Safe.arv hZ.alike V34 (by decide)) CR38.1
    have CR46 := CHr.trans CR38 cs45
    have hk47 := Nat.le_trans hk39 (Nat.le_of_eq (Wr.size W42).symm)
    have K48 := K40.wr W42 (Or.inr (show h0.size ≤ b34 by omega))
    have N42 := Fr.snoc X42 N0 (show n0 ≤ b34 by omega)
    have V42 : Arv Z h42 b34 k34 .char (1 : Int32) [(.int (((xi.toUInt32 >>> ((2 : Int32) &&& 31).toUInt32).toInt32) &&& (255 : Int32)))] (.int (0 : Int32)) := V42
    show own_Goes p e below (T42.setTop (mkF m 65 #[.val (.int xi), .val (.int (1 : Int32)), .val (.int (((xi.toUInt32 >>> ((2 : Int32) &&& 31).toUInt32).toInt32) &&& (255 : Int32))), .val (.int (((xi.toUInt32 >>> ((10 : Int32) &&& 31).toUInt32).toInt32) &&& (255 : Int32))), .val (.int (((xi.toUInt32 >>> ((18 : Int32) &&& 31).toUInt32).toInt32) &&& (255 : Int32)))] [(.ref b34), (.ref b27), (.ref b27)])) _
    have f49 := ((A27.ext E34).wr W42)
    have f50 := ((F27_value.ext E34).other W42 (Or.inl (own_ne (a := b27) (b := b34) (by omega))))
    have f51 := ((F27_coder.ext E34).other W42 (Or.inl (own_ne (a := b27) (b := b34) (by omega))))
    have q52 := G0.ext O43.2
    have hp53 : ∀ c_ ∈ ([(((xi.toUInt32 >>> ((2 : Int32) &&& 31).toUInt32).toInt32) &&& (255 : Int32))] : List Int32), ¬ c_ < 0 ∧ ¬ (255 : Int32) < c_ := by
      intro c_ hc_
      simp only [List.mem_cons, List.not_mem_nil, or_false] at hc_
      rcases hc_ with rfl
      · exact (own_ch255 _)
    obtain ⟨_, _, ⟨T54, L54, k54, n54⟩, -, X54, ⟨Lc54, hQ54, l54, y54, z54⟩, st54⟩ := X42.specialBack hx (y := (⟨"java/lang/String", "<init>", "([C)V"⟩ : MethodName)) rfl hown (mvT hZ (hw _ (List.mem_of_getElem? (i := 8) rfl))) (mvT hZ (hw _ (List.mem_of_getElem? (i := 9) rfl))) (mvT hZ (hw _ (List.mem_of_getElem? (i := 10) rfl))) (by decide) (StrChars.Road.backV (W := 1) hZ (own_wV hw) (kI := 4) (hw _ (List.mem_of_getElem? (i := 5) rfl)) (cs := ([(((xi.toUInt32 >>> ((2 : Int32) &&& 31).toUInt32).toInt32) &&& (255 : Int32))] : List Int32)) (bs := ([(((xi.toUInt32 >>> ((2 : Int32) &&& 31).toUInt32).toInt32) &&& (255 : Int32))] : List Int32).map (fun c => c.toInt8.toInt32)) (n := 1) (show n0 ≤ b27 by omega) (show n0 ≤ h42.size by omega) f49 f50 f51 V42 q52 G1 rfl rfl (by decide) (by decide) hp53 rfl (by decide) (by decide)) (g := (mkF m 65 #[.val (.int xi), .val (.int (1 : Int32)), .val (.int (((xi.toUInt32 >>> ((2 : Int32) &&& 31).toUInt32).toInt32) &&& (255 : Int32))), .val (.int (((xi.toUInt32 >>> ((10 : Int32) &&& 31).toUInt32).toInt32) &&& (255 : Int32))), .val (.int (((xi.toUInt32 >>> ((18 : Int32) &&& 31).toUInt32).toInt32) &&& (255 : Int32)))] [(.ref b34), (.ref b27), (.ref b27)])) rfl (by rw [hml]; rfl) (Steps.refl _) (a := b27) (argsL := [(.ref b34)]) (rest := [(.ref b27)]) (lenOf own_pd_2 rfl) rfl (by show 2 * 0 + _ ≤ _; exact Nat.le_of_eq rfl) (hb hby own_d1_65) (fun _ _ => ⟨rfl, e42, (by decide : 2 + 1 ≤ _), (by decide : 5 + 1 ≤ _)⟩)
    dsimp only [Pt.U, Pt.locs, Pt.cells, Pt.slots] at X54 l54 y54 z54 st54 hQ54
    subst l54 y54 z54
    obtain ⟨h54, e54⟩ : ∃ z, T54.heap = z := ⟨_, rfl⟩
    rw [e54] at hQ54
    obtain ⟨rfl, Nc54, Kc54, Es54, Cs54, t54, kb54, ta54, tb54, tc54, Vs54, As54⟩ := hQ54
    have N54 := Fr.app N42 Nc54
    have SF55 : Safe Z consts_1 _ h42 b27 := own_safeNull hZ.alike f49 f50
    have O56 := O43.keep Kc54 (allS (show n0 ≤ b27 by omega) all0)
    have sz57 : h42.size ≤ h54.size := Kc54.1
    have cs58 := CHr.keep Kc54 (sfS SF55 sf0) CR46.1
    have CR59 := CHr.trans CR46 cs58
    have SF60 := CHr.safe cs58 (show @LT.lt Nat _ b27 h42.size by omega) SF55
    have hk61 := Nat.le_trans hk47 Kc54.1
    have K62 := Keep.trans K48 Kc54 (allS (Or.inr (show h0.size ≤ b27 by omega)) all0)
    have lt54 : @LT.lt Nat _ t54 h54.size := As54.lt
    have lx54 : @LT.lt Nat _ b27 h54.size := Es54.lt
    refine own_goS st54 ?_
    show own_Goes p e below (T54.setTop (mkF m 68 #[.val (.int xi), .val (.int (1 : Int32)), .val (.int (((xi.toUInt32 >>> ((2 : Int32) &&& 31).toUInt32).toInt32) &&& (255 : Int32))), .val (.int (((xi.toUInt32 >>> ((10 : Int32) &&& 31).toUInt32).toInt32) &&& (255 : Int32))), .val (.int (((xi.toUInt32 >>> ((18 : Int32) &&& 31).toUInt32).toInt32) &&& (255 : Int32)))] [(.ref b27)])) _
    refine own_endH X54 hS0 (show _ ≤ T54.heap.size by rw [e54]; exact hk61) e54 hh CR59 hZ (own_EW hw) (v := (some (.ref b27))) (fun h => by rw [hret] at h; cases h) hlk (by decide) (by decide) ?_ (fun fs hr => retOut X54 hx hret rfl (Or.inr (Or.inr (Or.inr (Or.inr ⟨rfl, rfl, rfl⟩)))) (hb hby own_d1_68) hr)
    show Q_own_str Z xi gz gwE gwO gwA gk h0 n0 _ T54.heap _
    rw [e54]
    exact ⟨N54, K62, b27, rfl, Es54, (show h0.size ≤ b27 by first | assumption | omega | decide)⟩
  · rw [hl3]
    show own_Goes p e below (s₁.setTop (mkF m 3 #[.val (.int xi), .unset, .unset, .unset, .unset] [(.int (2 : Int32))])) _
    refine own_go (fun t_ k_ => XS.istoreN X0.here hx rfl (hb hby own_d1_3) rfl (l' := #[.val (.int xi), .val (.int (2 : Int32)), .unset, .unset, .unset]) rfl k_) ?_
    show own_Goes p e below (s₁.setTop (mkF m 4 #[.val (.int xi), .val (.int (2 : Int32)), .unset, .unset, .unset] [])) _
    refine own_go (fun t_ k_ => XS.iloadN X0.here hx rfl (hb hby own_d1_4) rfl k_) ?_
    show own_Goes p e below (s₁.setTop (mkF m 5 #[.val (.int xi), .val (.int (2 : Int32)), .unset, .unset, .unset] [(.int xi)])) _
    refine own_go (fun t_ k_ => XS.iconst X0.here hx rfl (hb hby own_d1_5) k_) ?_
    show own_Goes p e below (s₁.setTop (mkF m 6 #[.val (.int xi), .val (.int (2 : Int32)), .unset, .unset, .unset] [(.int (2 : Int32)), (.int xi)])) _
    refine own_go (fun t_ k_ => XS.iushr X0.here hx rfl (hb hby own_d1_6) rfl k_) ?_
    show own_Goes p e below (s₁.setTop (mkF m 7 #[.val (.int xi), .val (.int (2 : Int32)), .unset, .unset, .unset] [(.int ((xi.toUInt32 >>> ((2 : Int32) &&& 31).toUInt32).toInt32))])) _
    refine own_go (fun t_ k_ => XS.sipush X0.here hx rfl (hb hby own_d1_7) k_) ?_
    show own_Goes p e below (s₁.setTop (mkF m 10 #[.val (.int xi), .val (.int (2 : Int32)), .unset, .unset, .unset] [(.int (255 : Int32)), (.int ((xi.toUInt32 >>> ((2 : Int32) &&& 31).toUInt32).toInt32))])) _
    refine own_go (fun t_ k_ => XS.iand X0.here hx rfl (hb hby own_d1_10) rfl k_) ?_
    show own_Goes p e below (s₁.setTop (mkF m 11 #[.val (.int xi), .val (.int (2 : Int32)), .unset, .unset, .unset] [(.int (((xi.toUInt32 >>> ((2 : Int32) &&& 31).toUInt32).toInt32) &&& (255 : Int32)))])) _
    refine own_go (fun t_ k_ => XS.i2c X0.here hx rfl (hb hby own_d1_11) rfl k_) ?_
    show own_Goes p e below (s₁.setTop (mkF m 12 #[.val (.int xi), .val (.int (2 : Int32)), .unset, .unset, .unset] [(.int ((((xi.toUInt32 >>> ((2 : Int32) &&& 31).toUInt32).toInt32) &&& (255 : Int32)).toUInt32.toUInt16.toUInt32.toInt32))])) _
    rw [i2c_mask]
    show own_Goes p e below (s₁.setTop (mkF m 12 #[.val (.int xi), .val (.int (2 : Int32)), .unset, .unset, .unset] [(.int (((xi.toUInt32 >>> ((2 : Int32) &&& 31).toUInt32).toInt32) &&& (255 : Int32)))])) _
    refine own_go (fun t_ k_ => XS.istoreN X0.here hx rfl (hb hby own_d1_12) rfl (l' := #[.val (.int xi), .val (.int (2 : Int32)), .val (.int (((xi.toUInt32 >>> ((2 : Int32) &&& 31).toUInt32).toInt32) &&& (255 : Int32))), .unset, .unset]) rfl k_) ?_
    show own_Goes p e below (s₁.setTop (mkF m 13 #[.val (.int xi), .val (.int (2 : Int32)), .val (.int (((xi.toUInt32 >>> ((2 : Int32) &&& 31).toUInt32).toInt32) &&& (255 : Int32))), .unset, .unset] [])) _
    refine own_go (fun t_ k_ => XS.iloadN X0.here hx rfl (hb hby own_d1_13) rfl k_) ?_
    show own_Goes p e below (s₁.setTop (mkF m 14 #[.val (.int xi), .val (.int (2 : Int32)), .val (.int (((xi.toUInt32 >>> ((2 : Int32) &&& 31).toUInt32).toInt32) &&& (255 : Int32))), .unset, .unset] [(.int xi)])) _
    refine own_go (fun t_ k_ => XS.bipush X0.here hx rfl (hb hby own_d1_14) k_) ?_
    show own_Goes p e below (s₁.setTop (mkF m 16 #[.val (.int xi), .val (.int (2 : Int32)), .val (.int (((xi.toUInt32 >>> ((2 : Int32) &&& 31).toUInt32).toInt32) &&& (255 : Int32))), .unset, .unset] [(.int (10 : Int32)), (.int xi)])) _
    refine own_go (fun t_ k_ => XS.iushr X0.here hx rfl (hb hby own_d1_16) rfl k_) ?_
    show own_Goes p e below (s₁.setTop (mkF m 17 #[.val (.int xi), .val (.int (2 : Int32)), .val (.int (((xi.toUInt32 >>> ((2 : Int32) &&& 31).toUInt32).toInt32) &&& (255 : Int32))), .unset, .unset] [(.int ((xi.toUInt32 >>> ((10 : Int32) &&& 31).toUInt32).toInt32))])) _
    refine own_go (fun t_ k_ => XS.sipush X0.here hx rfl (hb hby own_d1_17) k_) ?_
    show own_Goes p e below (s₁.setTop (mkF m 20 #[.val (.int xi), .val (.int (2 : Int32)), .val (.int (((xi.toUInt32 >>> ((2 : Int32) &&& 31).toUInt32).toInt32) &&& (255 : Int32))), .unset, .unset] [(.int (255 : Int32)), (.int ((xi.toUInt32 >>> ((10 : Int32) &&& 31).toUInt32).toInt32))])) _
    refine own_go (fun t_ k_ => XS.iand X0.here hx rfl (hb hby own_d1_20) rfl k_) ?_
    show own_Goes p e below (s₁.setTop (mkF m 21 #[.val (.int xi), .val (.int (2 : Int32)), .val (.int (((xi.toUInt32 >>> ((2 : Int32) &&& 31).toUInt32).toInt32) &&& (255 : Int32))), .unset, .unset] [(.int (((xi.toUInt32 >>> ((10 : Int32) &&& 31).toUInt32).toInt32) &&& (255 : Int32)))])) _
    refine own_go (fun t_ k_ => XS.i2c X0.here hx rfl (hb hby own_d1_21) rfl k_) ?_
    show own_Goes p e below (s₁.setTop (mkF m 22 #[.val (.int xi), .val (.int (2 : Int32)), .val (.int (((xi.toUInt32 >>> ((2 : Int32) &&& 31).toUInt32).toInt32) &&& (255 : Int32))), .unset, .unset] [(.int ((((xi.toUInt32 >>> ((10 : Int32) &&& 31).toUInt32).toInt32) &&& (255 : Int32)).toUInt32.toUInt16.toUInt32.toInt32))])) _
    rw [i2c_mask]
    show own_Goes p e below (s₁.setTop (mkF m 22 #[.val (.int xi), .val (.int (2 : Int32)), .val (.int (((xi.toUInt32 >>> ((2 : Int32) &&& 31).toUInt32).toInt32) &&& (255 : Int32))), .unset, .unset] [(.int (((xi.toUInt32 >>> ((10 : Int32) &&& 31).toUInt32).toInt32) &&& (255 : Int32)))])) _
    refine own_go (fun t_ k_ => XS.istoreN X0.here hx rfl (hb hby own_d1_22) rfl (l' := #[.val (.int xi), .val (.int (2 : Int32)), .val (.int (((xi.toUInt32 >>> ((2 : Int32) &&& 31).toUInt32).toInt32) &&& (255 : Int32))), .val (.int (((xi.toUInt32 >>> ((10 : Int32) &&& 31).toUInt32).toInt32) &&& (255 : Int32))), .unset]) rfl k_) ?_
    show own_Goes p e below (s₁.setTop (mkF m 23 #[.val (.int xi), .val (.int (2 : Int32)), .val (.int (((xi.toUInt32 >>> ((2 : Int32) &&& 31).toUInt32).toInt32) &&& (255 : Int32))), .val (.int (((xi.toUInt32 >>> ((10 : Int32) &&& 31).toUInt32).toInt32) &&& (255 : Int32))), .unset] [])) _
    refine own_go (fun t_ k_ => XS.iloadN X0.here hx rfl (hb hby own_d1_23) rfl k_) ?_
    show own_Goes p e below (s₁.setTop (mkF m 24 #[.val (.int xi), .val (.int (2 : Int32)), .val (.int (((xi.toUInt32 >>> ((2 : Int32) &&& 31).toUInt32).toInt32) &&& (255 : Int32))), .val (.int (((xi.toUInt32 >>> ((10 : Int32) &&& 31).toUInt32).toInt32) &&& (255 : Int32))), .unset] [(.int xi)])) _
    refine own_go (fun t_ k_ => XS.bipush X0.here hx rfl (hb hby own_d1_24) k_) ?_
    show own_Goes p e below (s₁.setTop (mkF m 26 #[.val (.int xi), .val (.int (2 : Int32)), .val (.int (((xi.toUInt32 >>> ((2 : Int32) &&& 31).toUInt32).toInt32) &&& (255 : Int32))), .val (.int (((xi.toUInt32 >>> ((10 : Int32) &&& 31).toUInt32).toInt32) &&& (255 : Int32))), .unset] [(.int (18 : Int32)), (.int xi)])) _
    refine own_go (fun t_ k_ => XS.iushr X0.here hx rfl (hb hby own_d1_26) rfl k_) ?_
    show own_Goes p e below (s₁.setTop (mkF m 27 #[.val (.int xi), .val (.int (2 : Int32)), .val (.int (((xi.toUInt32 >>> ((2 : Int32) &&& 31).toUInt32).toInt32) &&& (255 : Int32))), .val (.int (((xi.toUInt32 >>> ((10 : Int32) &&& 31).toUInt32).toInt32) &&& (255 : Int32))), .unset] [(.int ((xi.toUInt32 >>> ((18 : Int32) &&& 31).toUInt32).toInt32))])) _
    refine own_go (fun t_ k_ => XS.sipush X0.here hx rfl (hb hby own_d1_27) k_) ?_
    show own_Goes p e below (s₁.setTop (mkF m 30 #[.val (.int xi), .val (.int (2 : Int32)), .val (.int (((xi.toUInt32 >>> ((2 : Int32) &&& 31).toUInt32).toInt32) &&& (255 : Int32))), .val (.int (((xi.toUInt32 >>> ((10 : Int32) &&& 31).toUInt32).toInt32) &&& (255 : Int32))), .unset] [(.int (255 : Int32)), (.int ((xi.toUInt32 >>> ((18 : Int32) &&& 31).toUInt32).toInt32))])) _
    refine own_go (fun t_ k_ => XS.iand X0.here hx rfl (hb hby own_d1_30) rfl k_) ?_
    show own_Goes p e below (s₁.setTop (mkF m 31 #[.val (.int xi), .val (.int (2 : Int32)), .val (.int (((xi.toUInt32 >>> ((2 : Int32) &&& 31).toUInt32).toInt32) &&& (255 : Int32))), .val (.int (((xi.toUInt32 >>> ((10 : Int32) &&& 31).toUInt32).toInt32) &&& (255 : Int32))), .unset] [(.int (((xi.toUInt32 >>> ((18 : Int32) &&& 31).toUInt32).toInt32) &&& (255 : Int32)))])) _
    refine own_go (fun t_ k_ => XS.i2c X0.here hx rfl (hb hby own_d1_31) rfl k_) ?_
    show own_Goes p e below (s₁.setTop (mkF m 32 #[.val (.int xi), .val (.int (2 : Int32)), .val (.int (((xi.toUInt32 >>> ((2 : Int32) &&& 31).toUInt32).toInt32) &&& (255 : Int32))), .val (.int (((xi.toUInt32 >>> ((10 : Int32) &&& 31).toUInt32).toInt32) &&& (255 : Int32))), .unset] [(.int ((((xi.toUInt32 >>> ((18 : Int32) &&& 31).toUInt32).toInt32) &&& (255 : Int32)).toUInt32.toUInt16.toUInt32.toInt32))])) _
    rw [i2c_mask]
    show own_Goes p e below (s₁.setTop (mkF m 32 #[.val (.int xi), .val (.int (2 : Int32)), .val (.int (((xi.toUInt32 >>> ((2 : Int32) &&& 31).toUInt32).toInt32) &&& (255 : Int32))), .val (.int (((xi.toUInt32 >>> ((10 : Int32) &&& 31).toUInt32).toInt32) &&& (255 : Int32))), .unset] [(.int (((xi.toUInt32 >>> ((18 : Int32) &&& 31).toUInt32).toInt32) &&& (255 : Int32)))])) _
    refine own_go (fun t_ k_ => XS.istore X0.here hx rfl (hb hby own_d1_32) rfl (l' := #[.val (.int xi), .val (.int (2 : Int32)), .val (.int (((xi.toUInt32 >>> ((2 : Int32) &&& 31).toUInt32).toInt32) &&& (255 : Int32))), .val (.int (((xi.toUInt32 >>> ((10 : Int32) &&& 31).toUInt32).toInt32) &&& (255 : Int32))), .val (.int (((xi.toUInt32 >>> ((18 : Int32) &&& 31).toUInt32).toInt32) &&& (255 : Int32)))]) rfl k_) ?_
    show own_Goes p e below (s₁.setTop (mkF m 34 #[.val (.int xi), .val (.int (2 : Int32)), .val (.int (((xi.toUInt32 >>> ((2 : Int32) &&& 31).toUInt32).toInt32) &&& (255 : Int32))), .val (.int (((xi.toUInt32 >>> ((10 : Int32) &&& 31).toUInt32).toInt32) &&& (255 : Int32))), .val (.int (((xi.toUInt32 >>> ((18 : Int32) &&& 31).toUInt32).toInt32) &&& (255 : Int32)))] [])) _
    refine own_go (fun t_ k_ => XS.iloadN X0.here hx rfl (hb hby own_d1_34) rfl k_) ?_
    show own_Goes p e below (s₁.setTop (mkF m 35 #[.val (.int xi), .val (.int (2 : Int32)), .val (.int (((xi.toUInt32 >>> ((2 : Int32) &&& 31).toUInt32).toInt32) &&& (255 : Int32))), .val (.int (((xi.toUInt32 >>> ((10 : Int32) &&& 31).toUInt32).toInt32) &&& (255 : Int32))), .val (.int (((xi.toUInt32 >>> ((18 : Int32) &&& 31).toUInt32).toInt32) &&& (255 : Int32)))] [(.int (2 : Int32))])) _
    refine own_go (fun t_ k_ => XS.ifYes X0.here hx rfl (pc0 := 35) (pc' := 49) rfl (hb hby own_d1_35) rfl ((if0 _ _).trans (feq (show ¬ ((2 : Int32) = (0 : Int32)) from by decide)).2) (by decide) (by decide) k_) ?_
    show own_Goes p e below (s₁.setTop (mkF m 49 #[.val (.int xi), .val (.int (2 : Int32)), .val (.int (((xi.toUInt32 >>> ((2 : Int32) &&& 31).toUInt32).toInt32) &&& (255 : Int32))), .val (.int (((xi.toUInt32 >>> ((10 : Int32) &&& 31).toUInt32).toInt32) &&& (255 : Int32))), .val (.int (((xi.toUInt32 >>> ((18 : Int32) &&& 31).toUInt32).toInt32) &&& (255 : Int32)))] [])) _
    refine own_go (fun t_ k_ => XS.iloadN X0.here hx rfl (hb hby own_d1_49) rfl k_) ?_
    show own_Goes p e below (s₁.setTop (mkF m 50 #[.val (.int xi), .val (.int (2 : Int32)), .val (.int (((xi.toUInt32 >>> ((2 : Int32) &&& 31).toUInt32).toInt32) &&& (255 : Int32))), .val (.int (((xi.toUInt32 >>> ((10 : Int32) &&& 31).toUInt32).toInt32) &&& (255 : Int32))), .val (.int (((xi.toUInt32 >>> ((18 : Int32) &&& 31).toUInt32).toInt32) &&& (255 : Int32)))] [(.int (2 : Int32))])) _
    refine own_go (fun t_ k_ => XS.iconst X0.here hx rfl (hb hby own_d1_50) k_) ?_
    show own_Goes p e below (s₁.setTop (mkF m 51 #[.val (.int xi), .val (.int (2 : Int32)), .val (.int (((xi.toUInt32 >>> ((2 : Int32) &&& 31).toUInt32).toInt32) &&& (255 : Int32))), .val (.int (((xi.toUInt32 >>> ((10 : Int32) &&& 31).toUInt32).toInt32) &&& (255 : Int32))), .val (.int (((xi.toUInt32 >>> ((18 : Int32) &&& 31).toUInt32).toInt32) &&& (255 : Int32)))] [(.int (1 : Int32)), (.int (2 : Int32))])) _
    refine own_go (fun t_ k_ => XS.icmpYes X0.here hx rfl (pc0 := 51) (pc' := 69) rfl (hb hby own_d1_51) rfl (feq (show ¬ ((2 : Int32) = (1 : Int32)) from by decide)).2 (by decide) (by decide) k_) ?_
    show own_Goes p e below (s₁.setTop (mkF m 69 #[.val (.int xi), .val (.int (2 : Int32)), .val (.int (((xi.toUInt32 >>> ((2 : Int32) &&& 31).toUInt32).toInt32) &&& (255 : Int32))), .val (.int (((xi.toUInt32 >>> ((10 : Int32) &&& 31).toUInt32).toInt32) &&& (255 : Int32))), .val (.int (((xi.toUInt32 >>> ((18 : Int32) &&& 31).toUInt32).toInt32) &&& (255 : Int32)))] [])) _
    refine own_go (fun t_ k_ => XS.iloadN X0.here hx rfl (hb hby own_d1_69) rfl k_) ?_
    show own_Goes p e below (s₁.setTop (mkF m 70 #[.val (.int xi), .val (.int (2 : Int32)), .val (.int (((xi.toUInt32 >>> ((2 : Int32) &&& 31).toUInt32).toInt32) &&& (255 : Int32))), .val (.int (((xi.toUInt32 >>> ((10 : Int32) &&& 31).toUInt32).toInt32) &&& (255 : Int32))), .val (.int (((xi.toUInt32 >>> ((18 : Int32) &&& 31).toUInt32).toInt32) &&& (255 : Int32)))] [(.int (2 : Int32))])) _
    refine own_go (fun t_ k_ => XS.iconst X0.here hx rfl (hb hby own_d1_70) k_) ?_
    show own_Goes p e below (s₁.setTop (mkF m 71 #[.val (.int xi), .val (.int (2 : Int32)), .val (.int (((xi.toUInt32 >>> ((2 : Int32) &&& 31).toUInt32).toInt32) &&& (255 : Int32))), .val (.int (((xi.toUInt32 >>> ((10 : Int32) &&& 31).toUInt32).toInt32) &&& (255 : Int32))), .val (.int (((xi.toUInt32 >>> ((18 : Int32) &&& 31).toUInt32).toInt32) &&& (255 : Int32)))] [(.int (2 : Int32)), (.int (2 : Int32))])) _
    refine own_go (fun t_ k_ => XS.icmpNo X0.here hx rfl (hb hby own_d1_71) rfl (teq (show ((2 : Int32) = (2 : Int32)) from by decide)).2 k_) ?_
    show own_Goes p e below (s₁.setTop (mkF m 74 #[.val (.int xi), .val (.int (2 : Int32)), .val (.int (((xi.toUInt32 >>> ((2 : Int32) &&& 31).toUInt32).toInt32) &&& (255 : Int32))), .val (.int (((xi.toUInt32 >>> ((10 : Int32) &&& 31).toUInt32).toInt32) &&& (255 : Int32))), .val (.int (((xi.toUInt32 >>> ((18 : Int32) &&& 31).toUInt32).toInt32) &&& (255 : Int32)))] [])) _
    obtain ⟨T63, h63, X63, e63, E63, A63, D63, -, st63⟩ := newO X0 hx hZ hown (hw _ (List.mem_of_getElem? (i := 4) rfl)) (hw _ (List.mem_of_getElem? (i := 5) rfl)) (hw _ (List.mem_of_getElem? (i := 6) rfl)) e0 (g := (mkF m 74 #[.val (.int xi), .val (.int (2 : Int32)), .val (.int (((xi.toUInt32 >>> ((2 : Int32) &&& 31).toUInt32).toInt32) &&& (255 : Int32))), .val (.int (((xi.toUInt32 >>> ((10 : Int32) &&& 31).toUInt32).toInt32) &&& (255 : Int32))), .val (.int (((xi.toUInt32 >>> ((18 : Int32) &&& 31).toUInt32).toInt32) &&& (255 : Int32)))] [])) rfl (hb hby own_d1_74) (by decide) (by decide)
    obtain ⟨b63, g63⟩ : ∃ z, z = h0.size := ⟨_, rfl⟩
    rw [← g63] at A63 D63 st63
    refine own_go st63 ?_
    have O64 := O0.ext E63
    have sz65 : h0.size ≤ h63.size := E63.1
    have cs66 := CHr.ext E63 CR0.1
    have CR67 := CHr.trans CR0 cs66
    have hk68 := Nat.le_trans hk0 E63.1
    have K69 := K0.ext E63
    have l63 : @LT.lt Nat _ b63 h63.size := A63.lt
    have F63_coder : Fld Z h63 b63 "java/lang/String" "coder" "B" (.int (0 : Int32)) := D63 (Or.inr (hw _ (List.mem_of_getElem? (i := 31) rfl))) (ty := .byte) (by decide)
    have F63_value : Fld Z h63 b63 "java/lang/String" "value" "[B" .null := D63 (Or.inr (hw _ (List.mem_of_getElem? (i := 33) rfl))) (ty := (.array .byte)) (by decide)
    show own_Goes p e below (T63.setTop (mkF m 77 #[.val (.int xi), .val (.int (2 : Int32)), .val (.int (((xi.toUInt32 >>> ((2 : Int32) &&& 31).toUInt32).toInt32) &&& (255 : Int32))), .val (.int (((xi.toUInt32 >>> ((10 : Int32) &&& 31).toUInt32).toInt32) &&& (255 : Int32))), .val (.int (((xi.toUInt32 >>> ((18 : Int32) &&& 31).toUInt32).toInt32) &&& (255 : Int32)))] [(.ref b63)])) _
    refine own_go (fun t_ k_ => XS.dup X63.here hx rfl (hb hby own_d1_77) rfl rfl k_) ?_
    show own_Goes p e below (T63.setTop (mkF m 78 #[.val (.int xi), .val (.int (2 : Int32)), .val (.int (((xi.toUInt32 >>> ((2 : Int32) &&& 31).toUInt32).toInt32) &&& (255 : Int32))), .val (.int (((xi.toUInt32 >>> ((10 : Int32) &&& 31).toUInt32).toInt32) &&& (255 : Int32))), .val (.int (((xi.toUInt32 >>> ((18 : Int32) &&& 31).toUInt32).toInt32) &&& (255 : Int32)))] [(.ref b63), (.ref b63)])) _
    refine own_go (fun t_ k_ => XS.iconst X63.here hx rfl (hb hby own_d1_78) k_) ?_
    show own_Goes p e below (T63.setTop (mkF m 79 #[.val (.int xi), .val (.int (2 : Int32)), .val (.int (((xi.toUInt32 >>> ((2 : Int32) &&& 31).toUInt32).toInt32) &&& (255 : Int32))), .val (.int (((xi.toUInt32 >>> ((10 : Int32) &&& 31).toUInt32).toInt32) &&& (255 : Int32))), .val (.int (((xi.toUInt32 >>> ((18 : Int32) &&& 31).toUInt32).toInt32) &&& (255 : Int32)))] [(.int (2 : Int32)), (.ref b63), (.ref b63)])) _
    obtain ⟨T70, h70, k70, X70, e70, E70, A70, st70⟩ := newP X63 hx hZ (hw _ (List.mem_of_getElem? (i := 7) rfl)) e63 (g := (mkF m 79 #[.val (.int xi), .val (.int (2 : Int32)), .val (.int (((xi.toUInt32 >>> ((2 : Int32) &&& 31).toUInt32).toInt32) &&& (255 : Int32))), .val (.int (((xi.toUInt32 >>> ((10 : Int32) &&& 31).toUInt32).toInt32) &&& (255 : Int32))), .val (.int (((xi.toUInt32 >>> ((18 : Int32) &&& 31).toUInt32).toInt32) &&& (255 : Int32)))] [(.int (2 : Int32)), (.ref b63), (.ref b63)])) rfl (hb hby own_d1_79) rfl (by decide) (cap := 2) (by decide) (by decide) (by decide) (by decide)
    obtain ⟨b70, g70⟩ : ∃ z, z = h63.size := ⟨_, rfl⟩
    rw [← g70] at A70 st70
    refine own_go st70 ?_
    have O71 := O64.ext E70
    have sz72 : h63.size ≤ h70.size := E70.1
    have cs73 := CHr.ext E70 CR67.1
    have CR74 := CHr.trans CR67 cs73
    have hk75 := Nat.le_trans hk68 E70.1
    have K76 := K69.ext E70
    have l70 : @LT.lt Nat _ b70 h70.size := A70.lt
    have V70 : Arv Z h70 b70 k70 .char (2 : Int32) [(.int (0 : Int32)), (.int (0 : Int32))] (.int (0 : Int32)) := (Arv.new A70 (by decide)).pad (pad_rep [] (.int (0 : Int32)) 2)
    show own_Goes p e below (T70.setTop (mkF m 81 #[.val (.int xi), .val (.int (2 : Int32)), .val (.int (((xi.toUInt32 >>> ((2 : Int32) &&& 31).toUInt32).toInt32) &&& (255 : Int32))), .val (.int (((xi.toUInt32 >>> ((10 : Int32) &&& 31).toUInt32).toInt32) &&& (255 : Int32))), .val (.int (((xi.toUInt32 >>> ((18 : Int32) &&& 31).toUInt32).toInt32) &&& (255 : Int32)))] [(.ref b70), (.ref b63), (.ref b63)])) _
    refine own_go (fun t_ k_ => XS.dup X70.here hx rfl (hb hby own_d1_81) rfl rfl k_) ?_
    show own_Goes p e below (T70.setTop (mkF m 82 #[.val (.int xi), .val (.int (2 : Int32)), .val (.int (((xi.toUInt32 >>> ((2 : Int32) &&& 31).toUInt32).toInt32) &&& (255 : Int32))), .val (.int (((xi.toUInt32 >>> ((10 : Int32) &&& 31).toUInt32).toInt32) &&& (255 : Int32))), .val (.int (((xi.toUInt32 >>> ((18 : Int32) &&& 31).toUInt32).toInt32) &&& (255 : Int32)))] [(.ref b70), (.ref b70), (.ref b63), (.ref b63)])) _
    refine own_go (fun t_ k_ => XS.iconst X70.here hx rfl (hb hby own_d1_82) k_) ?_
    show own_Goes p e below (T70.setTop (mkF m 83 #[.val (.int xi), .val (.int (2 : Int32)), .val (.int (((xi.toUInt32 >>> ((2 : Int32) &&& 31).toUInt32).toInt32) &&& (255 : Int32))), .val (.int (((xi.toUInt32 >>> ((10 : Int32) &&& 31).toUInt32).toInt32) &&& (255 : Int32))), .val (.int (((xi.toUInt32 >>> ((18 : Int32) &&& 31).toUInt32).toInt32) &&& (255 : Int32)))] [(.int (0 : Int32)), (.ref b70), (.ref b70), (.ref b63), (.ref b63)])) _
    refine own_go (fun t_ k_ => XS.iloadN X70.here hx rfl (hb hby own_d1_83) rfl k_) ?_
    show own_Goes p e below (T70.setTop (mkF m 84 #[.val (.int xi), .val (.int (2 : Int32)), .val (.int (((xi.toUInt32 >>> ((2 : Int32) &&& 31).toUInt32).toInt32) &&& (255 : Int32))), .val (.int (((xi.toUInt32 >>> ((10 : Int32) &&& 31).toUInt32).toInt32) &&& (255 : Int32))), .val (.int (((xi.toUInt32 >>> ((18 : Int32) &&& 31).toUInt32).toInt32) &&& (255 : Int32)))] [(.int (((xi.toUInt32 >>> ((2 : Int32) &&& 31).toUInt32).toInt32) &&& (255 : Int32))), (.int (0 : Int32)), (.ref b70), (.ref b70), (.ref b63), (.ref b63)])) _
    obtain ⟨clu77, Aru77, qu77, Szu77, Ngu77, Hsu77, Gsu77⟩ := id V70
    have inu77 : ¬ ((0 : Int32) < 0 ∨ clu77.slots.size ≤ ((0 : Int32)).toNatClampNeg) := inb_of Szu77 ⟨by decide, by decide⟩
    obtain ⟨T78, h78, X78, e78, W78, st78⟩ := stC X70 hx hZ e70 Aru77 (j := (0 : Int32)) inu77 (g := (mkF m 84 #[.val (.int xi), .val (.int (2 : Int32)), .val (.int (((xi.toUInt32 >>> ((2 : Int32) &&& 31).toUInt32).toInt32) &&& (255 : Int32))), .val (.int (((xi.toUInt32 >>> ((10 : Int32) &&& 31).toUInt32).toInt32) &&& (255 : Int32))), .val (.int (((xi.toUInt32 >>> ((18 : Int32) &&& 31).toUInt32).toInt32) &&& (255 : Int32)))] [(.int (((xi.toUInt32 >>> ((2 : Int32) &&& 31).toUInt32).toInt32) &&& (255 : Int32))), (.int (0 : Int32)), (.ref b70), (.ref b70), (.ref b63), (.ref b63)])) rfl rfl (hb hby own_d1_84)
    refine own_go st78 ?_
    have V78 := Arv.set Aru77 qu77 Szu77 Ngu77 Hsu77 Gsu77 (fits_nar_char _) W78 0 rfl (Nat.le_of_ble_eq_true rfl)
    rw [own_narM] at V78
    have O79 := O71.wr W78 (show n0 ≤ b70 by omega)
    have sz80 : h78.size = h70.size := Wr.size W78
    have cs81 := CHr.wr W78 (Safe.arv hZ.alike V70 (by decide)) CR74.1
    have CR82 := CHr.trans CR74 cs81
    have hk83 := Nat.le_trans hk75 (Nat.le_of_eq (Wr.size W78).symm)
    have K84 := K76.wr W78 (Or.inr (show h0.size ≤ b70 by omega))
    have N78 := Fr.snoc X78 N0 (show n0 ≤ b70 by omega)
    have V78 : Arv Z h78 b70 k70 .char (2 : Int32) [(.int (((xi.toUInt32 >>> ((2 : Int32) &&& 31).toUInt32).toInt32) &&& (255 : Int32))), (.int (0 : Int32))] (.int (0 : Int32)) := V78
    show own_Goes p e below (T78.setTop (mkF m 85 #[.val (.int xi), .val (.int (2 : Int32)), .val (.int (((xi.toUInt32 >>> ((2 : Int32) &&& 31).toUInt32).toInt32) &&& (255 : Int32))), .val (.int (((xi.toUInt32 >>> ((10 : Int32) &&& 31).toUInt32).toInt32) &&& (255 : Int32))), .val (.int (((xi.toUInt32 >>> ((18 : Int32) &&& 31).toUInt32).toInt32) &&& (255 : Int32)))] [(.ref b70), (.ref b63), (.ref b63)])) _
    refine own_go (fun t_ k_ => XS.dup X78.here hx rfl (hb hby own_d1_85) rfl rfl k_) ?_
    show own_Goes p e below (T78.setTop (mkF m 86 #[.val (.int xi), .val (.int (2 : Int32)), .val (.int (((xi.toUInt32 >>> ((2 : Int32) &&& 31).toUInt32).toInt32) &&& (255 : Int32))), .val (.int (((xi.toUInt32 >>> ((10 : Int32) &&& 31).toUInt32).toInt32) &&& (255 : Int32))), .val (.int (((xi.toUInt32 >>> ((18 : Int32) &&& 31).toUInt32).toInt32) &&& (255 : Int32)))] [(.ref b70), (.ref b70), (.ref b63), (.ref b63)])) _
    refine own_go (fun t_ k_ => XS.iconst X78.here hx rfl (hb hby own_d1_86) k_) ?_
    show own_Goes p e below (T78.setTop (mkF m 87 #[.val (.int xi), .val (.int (2 : Int32)), .val (.int (((xi.toUInt32 >>> ((2 : Int32) &&& 31).toUInt32).toInt32) &&& (255 : Int32))), .val (.int (((xi.toUInt32 >>> ((10 : Int32) &&& 31).toUInt32).toInt32) &&& (255 : Int32))), .val (.int (((xi.toUInt32 >>> ((18 : Int32) &&& 31).toUInt32).toInt32) &&& (255 : Int32)))] [(.int (1 : Int32)), (.ref b70), (.ref b70), (.ref b63), (.ref b63)])) _
    refine own_go (fun t_ k_ => XS.iloadN X78.here hx rfl (hb hby own_d1_87) rfl k_) ?_
    show own_Goes p e below (T78.setTop (mkF m 88 #[.val (.int xi), .val (.int (2 : Int32)), .val (.int (((xi.toUInt32 >>> ((2 : Int32) &&& 31).toUInt32).toInt32) &&& (255 : Int32))), .val (.int (((xi.toUInt32 >>> ((10 : Int32) &&& 31).toUInt32).toInt32) &&& (255 : Int32))), .val (.int (((xi.toUInt32 >>> ((18 : Int32) &&& 31).toUInt32).toInt32) &&& (255 : Int32)))] [(.int (((xi.toUInt32 >>> ((10 : Int32) &&& 31).toUInt32).toInt32) &&& (255 : Int32))), (.int (1 : Int32)), (.ref b70), (.ref b70), (.ref b63), (.ref b63)])) _
    obtain ⟨clu85, Aru85, qu85, Szu85, Ngu85, Hsu85, Gsu85⟩ := id V78
    have inu85 : ¬ ((1 : Int32) < 0 ∨ clu85.slots.size ≤ ((1 : Int32)).toNatClampNeg) := inb_of Szu85 ⟨by decide, by decide⟩
    obtain ⟨T86, h86, X86, e86, W86, st86⟩ := stC X78 hx hZ e78 Aru85 (j := (1 : Int32)) inu85 (g := (mkF m 88 #[.val (.int xi), .val (.int (2 : Int32)), .val (.int (((xi.toUInt32 >>> ((2 : Int32) &&& 31).toUInt32).toInt32) &&& (255 : Int32))), .val (.int (((xi.toUInt32 >>> ((10 : Int32) &&& 31).toUInt32).toInt32) &&& (255 : Int32))), .val (.int (((xi.toUInt32 >>> ((18 : Int32) &&& 31).toUInt32).toInt32) &&& (255 : Int32)))] [(.int (((xi.toUInt32 >>> ((10 : Int32) &&& 31).toUInt32).toInt32) &&& (255 : Int32))), (.int (1 : Int32)), (.ref b70), (.ref b70), (.ref b63), (.ref b63)])) rfl rfl (hb hby own_d1_88)
    refine own_go st86 ?_
    have V86 := Arv.set Aru85 qu85 Szu85 Ngu85 Hsu85 Gsu85 (fits_nar_char _) W86 1 rfl (Nat.le_of_ble_eq_true rfl)
    rw [own_narM] at V86
    have O87 := O79.wr W86 (show n0 ≤ b70 by omega)
    have sz88 : h86.size = h78.size := Wr.size W86
    have cs89 := CHr.wr W86 (Safe.arv hZ.alike V78 (by decide)) CR82.1
    have CR90 := CHr.trans CR82 cs89
    have hk91 := Nat.le_trans hk83 (Nat.le_of_eq (Wr.size W86).symm)
    have K92 := K84.wr W86 (Or.inr (show h0.size ≤ b70 by omega))
    have N86 := Fr.snoc X86 N78 (show n0 ≤ b70 by omega)
    have V86 : Arv Z h86 b70 k70 .char (2 : Int32) [(.int (((xi.toUInt32 >>> ((2 : Int32) &&& 31).toUInt32).toInt32) &&& (255 : Int32))), (.int (((xi.toUInt32 >>> ((10 : Int32) &&& 31).toUInt32).toInt32) &&& (255 : Int32)))] (.int (0 : Int32)) := V86
    show own_Goes p e below (T86.setTop (mkF m 89 #[.val (.int xi), .val (.int (2 : Int32)), .val (.int (((xi.toUInt32 >>> ((2 : Int32) &&& 31).toUInt32).toInt32) &&& (255 : Int32))), .val (.int (((xi.toUInt32 >>> ((10 : Int32) &&& 31).toUInt32).toInt32) &&& (255 : Int32))), .val (.int (((xi.toUInt32 >>> ((18 : Int32) &&& 31).toUInt32).toInt32) &&& (255 : Int32)))] [(.ref b70), (.ref b63), (.ref b63)])) _
    have f93 := (((A63.ext E70).wr W78).wr W86)
    have f94 := (((F63_value.ext E70).other W78 (Or.inl (own_ne (a := b63) (b := b70) (by omega)))).other W86 (Or.inl (own_ne (a := b63) (b := b70) (by omega))))
    have f95 := (((F63_coder.ext E70).other W78 (Or.inl (own_ne (a := b63) (b := b70) (by omega)))).other W86 (Or.inl (own_ne (a := b63) (b := b70) (by omega))))
    have q96 := G0.ext O87.2
    have hp97 : ∀ c_ ∈ ([(((xi.toUInt32 >>> ((2 : Int32) &&& 31).toUInt32).toInt32) &&& (255 : Int32)), (((xi.toUInt32 >>> ((10 : Int32) &&& 31).toUInt32).toInt32) &&& (255 : Int32))] : List Int32), ¬ c_ < 0 ∧ ¬ (255 : Int32) < c_ := by
      intro c_ hc_
      simp only [List.mem_cons, List.not_mem_nil, or_false] at hc_
      rcases hc_ with rfl | rfl
      · exact (own_ch255 _)
      · exact (own_ch255 _)
    obtain ⟨_, _, ⟨T98, L98, k98, n98⟩, -, X98, ⟨Lc98, hQ98, l98, y98, z98⟩, st98⟩ := X86.specialBack hx (y := (⟨"java/lang/String", "<init>", "([C)V"⟩ : MethodName)) rfl hown (mvT hZ (hw _ (List.mem_of_getElem? (i := 8) rfl))) (mvT hZ (hw _ (List.mem_of_getElem? (i := 9) rfl))) (mvT hZ (hw _ (List.mem_of_getElem? (i := 10) rfl))) (by decide) (StrChars.Road.backV (W := 1) hZ (own_wV hw) (kI := 4) (hw _ (List.mem_of_getElem? (i := 5) rfl)) (cs := ([(((xi.toUInt32 >>> ((2 : Int32) &&& 31).toUInt32).toInt32) &&& (255 : Int32)), (((xi.toUInt32 >>> ((10 : Int32) &&& 31).toUInt32).toInt32) &&& (255 : Int32))] : List Int32)) (bs := ([(((xi.toUInt32 >>> ((2 : Int32) &&& 31).toUInt32).toInt32) &&& (255 : Int32)), (((xi.toUInt32 >>> ((10 : Int32) &&& 31).toUInt32).toInt32) &&& (255 : Int32))] : List Int32).map (fun c => c.toInt8.toInt32)) (n := 2) (show n0 ≤ b63 by omega) (show n0 ≤ h86.size by omega) f93 f94 f95 V86 q96 G1 rfl rfl (by decide) (by decide) hp97 rfl (by decide) (by decide)) (g := (mkF m 89 #[.val (.int xi), .val (.int (2 : Int32)), .val (.int (((xi.toUInt32 >>> ((2 : Int32) &&& 31).toUInt32).toInt32) &&& (255 : Int32))), .val (.int (((xi.toUInt32 >>> ((10 : Int32) &&& 31).toUInt32).toInt32) &&& (255 : Int32))), .val (.int (((xi.toUInt32 >>> ((18 : Int32) &&& 31).toUInt32).toInt32) &&& (255 : Int32)))] [(.ref b70), (.ref b63), (.ref b63)])) rfl (by rw [hml]; rfl) (Steps.refl _) (a := b63) (argsL := [(.ref b70)]) (rest := [(.ref b63)]) (lenOf own_pd_2 rfl) rfl (by show 2 * 0 + _ ≤ _; exact Nat.le_of_eq rfl) (hb hby own_d1_89) (fun _ _ => ⟨rfl, e86, (by decide : 2 + 1 ≤ _), (by decide : 6 + 2 ≤ _)⟩)
    dsimp only [Pt.U, Pt.locs, Pt.cells, Pt.slots] at X98 l98 y98 z98 st98 hQ98
    subst l98 y98 z98
    obtain ⟨h98, e98⟩ : ∃ z, T98.heap = z := ⟨_, rfl⟩
    rw [e98] at hQ98
    obtain ⟨rfl, Nc98, Kc98, Es98, Cs98, t98, kb98, ta98, tb98, tc98, Vs98, As98⟩ := hQ98
    have N98 := Fr.app N86 Nc98
    have SF99 : Safe Z consts_1 _ h86 b63 := own_safeNull hZ.alike f93 f94
    have O100 := O87.keep Kc98 (allS (show n0 ≤ b63 by omega) all0)
    have sz101 : h86.size ≤ h98.size := Kc98.1
    have cs102 := CHr.keep Kc98 (sfS SF99 sf0) CR90.1
    have CR103 := CHr.trans CR90 cs102
    have SF104 := CHr.safe cs102 (show @LT.lt Nat _ b63 h86.size by omega) SF99
    have hk105 := Nat.le_trans hk91 Kc98.1
    have K106 := Keep.trans K92 Kc98 (allS (Or.inr (show h0.size ≤ b63 by omega)) all0)
    have lt98 : @LT.lt Nat _ t98 h98.size := As98.lt
    have lx98 : @LT.lt Nat _ b63 h98.size := Es98.lt
    refine own_goS st98 ?_
    show own_Goes p e below (T98.setTop (mkF m 92 #[.val (.int xi), .val (.int (2 : Int32)), .val (.int (((xi.toUInt32 >>> ((2 : Int32) &&& 31).toUInt32).toInt32) &&& (255 : Int32))), .val (.int (((xi.toUInt32 >>> ((10 : Int32) &&& 31).toUInt32).toInt32) &&& (255 : Int32))), .val (.int (((xi.toUInt32 >>> ((18 : Int32) &&& 31).toUInt32).toInt32) &&& (255 : Int32)))] [(.ref b63)])) _
    refine own_endH X98 hS0 (show _ ≤ T98.heap.size by rw [e98]; exact hk105) e98 hh CR103 hZ (own_EW hw) (v := (some (.ref b63))) (fun h => by rw [hret] at h; cases h) hlk (by decide) (by decide) ?_ (fun fs hr => retOut X98 hx hret rfl (Or.inr (Or.inr (Or.inr (Or.inr ⟨rfl, rfl, rfl⟩)))) (hb hby own_d1_92) hr)
    show Q_own_str Z xi gz gwE gwO gwA gk h0 n0 _ T98.heap _
    rw [e98]
    exact ⟨N98, K106, b63, rfl, Es98, (show h0.size ≤ b63 by first | assumption | omega | decide)⟩
  · rw [hl4]
    show own_Goes p e below (s₁.setTop (mkF m 3 #[.val (.int xi), .unset, .unset, .unset, .unset] [(.int (3 : Int32))])) _
    refine own_go (fun t_ k_ => XS.istoreN X0.here hx rfl (hb hby own_d1_3) rfl (l' := #[.val (.int xi), .val (.int (3 : Int32)), .unset, .unset, .unset]) rfl k_) ?_
    show own_Goes p e below (s₁.setTop (mkF m 4 #[.val (.int xi), .val (.int (3 : Int32)), .unset, .unset, .unset] [])) _
    refine own_go (fun t_ k_ => XS.iloadN X0.here hx rfl (hb hby own_d1_4) rfl k_) ?_
    show own_Goes p e below (s₁.setTop (mkF m 5 #[.val (.int xi), .val (.int (3 : Int32)), .unset, .unset, .unset] [(.int xi)])) _
    refine own_go (fun t_ k_ => XS.iconst X0.here hx rfl (hb hby own_d1_5) k_) ?_
    show own_Goes p e below (s₁.setTop (mkF m 6 #[.val (.int xi), .val (.int (3 : Int32)), .unset, .unset, .unset] [(.int (2 : Int32)), (.int xi)])) _
    refine own_go (fun t_ k_ => XS.iushr X0.here hx rfl (hb hby own_d1_6) rfl k_) ?_
    show own_Goes p e below (s₁.setTop (mkF m 7 #[.val (.int xi), .val (.int (3 : Int32)), .unset, .unset, .unset] [(.int ((xi.toUInt32 >>> ((2 : Int32) &&& 31).toUInt32).toInt32))])) _
    refine own_go (fun t_ k_ => XS.sipush X0.here hx rfl (hb hby own_d1_7) k_) ?_
    show own_Goes p e below (s₁.setTop (mkF m 10 #[.val (.int xi), .val (.int (3 : Int32)), .unset, .unset, .unset] [(.int (255 : Int32)), (.int ((xi.toUInt32 >>> ((2 : Int32) &&& 31).toUInt32).toInt32))])) _
    refine own_go (fun t_ k_ => XS.iand X0.here hx rfl (hb hby own_d1_10) rfl k_) ?_
    show own_Goes p e below (s₁.setTop (mkF m 11 #[.val (.int xi), .val (.int (3 : Int32)), .unset, .unset, .unset] [(.int (((xi.toUInt32 >>> ((2 : Int32) &&& 31).toUInt32).toInt32) &&& (255 : Int32)))])) _
    refine own_go (fun t_ k_ => XS.i2c X0.here hx rfl (hb hby own_d1_11) rfl k_) ?_
    show own_Goes p e below (s₁.setTop (mkF m 12 #[.val (.int xi), .val (.int (3 : Int32)), .unset, .unset, .unset] [(.int ((((xi.toUInt32 >>> ((2 : Int32) &&& 31).toUInt32).toInt32) &&& (255 : Int32)).toUInt32.toUInt16.toUInt32.toInt32))])) _
    rw [i2c_mask]
    show own_Goes p e below (s₁.setTop (mkF m 12 #[.val (.int xi), .val (.int (3 : Int32)), .unset, .unset, .unset] [(.int (((xi.toUInt32 >>> ((2 : Int32) &&& 31).toUInt32).toInt32) &&& (255 : Int32)))])) _
    refine own_go (fun t_ k_ => XS.istoreN X0.here hx rfl (hb hby own_d1_12) rfl (l' := #[.val (.int xi), .val (.int (3 : Int32)), .val (.int (((xi.toUInt32 >>> ((2 : Int32) &&& 31).toUInt32).toInt32) &&& (255 : Int32))), .unset, .unset]) rfl k_) ?_
    show own_Goes p e below (s₁.setTop (mkF m 13 #[.val (.int xi), .val (.int (3 : Int32)), .val (.int (((xi.toUInt32 >>> ((2 : Int32) &&& 31).toUInt32).toInt32) &&& (255 : Int32))), .unset, .unset] [])) _
    refine own_go (fun t_ k_ => XS.iloadN X0.here hx rfl (hb hby own_d1_13) rfl k_) ?_
    show own_Goes p e below (s₁.setTop (mkF m 14 #[.val (.int xi), .val (.int (3 : Int32)), .val (.int (((xi.toUInt32 >>> ((2 : Int32) &&& 31).toUInt32).toInt32) &&& (255 : Int32))), .unset, .unset] [(.int xi)])) _
    refine own_go (fun t_ k_ => XS.bipush X0.here hx rfl (hb hby own_d1_14) k_) ?_
    show own_Goes p e below (s₁.setTop (mkF m 16 #[.val (.int xi), .val (.int (3 : Int32)), .val (.int (((xi.toUInt32 >>> ((2 : Int32) &&& 31).toUInt32).toInt32) &&& (255 : Int32))), .unset, .unset] [(.int (10 : Int32)), (.int xi)])) _
    refine own_go (fun t_ k_ => XS.iushr X0.here hx rfl (hb hby own_d1_16) rfl k_) ?_
    show own_Goes p e below (s₁.setTop (mkF m 17 #[.val (.int xi), .val (.int (3 : Int32)), .val (.int (((xi.toUInt32 >>> ((2 : Int32) &&& 31).toUInt32).toInt32) &&& (255 : Int32))), .unset, .unset] [(.int ((xi.toUInt32 >>> ((10 : Int32) &&& 31).toUInt32).toInt32))])) _
    refine own_go (fun t_ k_ => XS.sipush X0.here hx rfl (hb hby own_d1_17) k_) ?_
    show own_Goes p e below (s₁.setTop (mkF m 20 #[.val (.int xi), .val (.int (3 : Int32)), .val (.int (((xi.toUInt32 >>> ((2 : Int32) &&& 31).toUInt32).toInt32) &&& (255 : Int32))), .unset, .unset] [(.int (255 : Int32)), (.int ((xi.toUInt32 >>> ((10 : Int32) &&& 31).toUInt32).toInt32))])) _
    refine own_go (fun t_ k_ => XS.iand X0.here hx rfl (hb hby own_d1_20) rfl k_) ?_
    show own_Goes p e below (s₁.setTop (mkF m 21 #[.val (.int xi), .val (.int (3 : Int32)), .val (.int (((xi.toUInt32 >>> ((2 : Int32) &&& 31).toUInt32).toInt32) &&& (255 : Int32))), .unset, .unset] [(.int (((xi.toUInt32 >>> ((10 : Int32) &&& 31).toUInt32).toInt32) &&& (255 : Int32)))])) _
    refine own_go (fun t_ k_ => XS.i2c X0.here hx rfl (hb hby own_d1_21) rfl k_) ?_
    show own_Goes p e below (s₁.setTop (mkF m 22 #[.val (.int xi), .val (.int (3 : Int32)), .val (.int (((xi.toUInt32 >>> ((2 : Int32) &&& 31).toUInt32).toInt32) &&& (255 : Int32))), .unset, .unset] [(.int ((((xi.toUInt32 >>> ((10 : Int32) &&& 31).toUInt32).toInt32) &&& (255 : Int32)).toUInt32.toUInt16.toUInt32.toInt32))])) _
    rw [i2c_mask]
    show own_Goes p e below (s₁.setTop (mkF m 22 #[.val (.int xi), .val (.int (3 : Int32)), .val (.int (((xi.toUInt32 >>> ((2 : Int32) &&& 31).toUInt32).toInt32) &&& (255 : Int32))), .unset, .unset] [(.int (((xi.toUInt32 >>> ((10 : Int32) &&& 31).toUInt32).toInt32) &&& (255 : Int32)))])) _
    refine own_go (fun t_ k_ => XS.istoreN X0.here hx rfl (hb hby own_d1_22) rfl (l' := #[.val (.int xi), .val (.int (3 : Int32)), .val (.int (((xi.toUInt32 >>> ((2 : Int32) &&& 31).toUInt32).toInt32) &&& (255 : Int32))), .val (.int (((xi.toUInt32 >>> ((10 : Int32) &&& 31).toUInt32).toInt32) &&& (255 : Int32))), .unset]) rfl k_) ?_
    show own_Goes p e below (s₁.setTop (mkF m 23 #[.val (.int xi), .val (.int (3 : Int32)), .val (.int (((xi.toUInt32 >>> ((2 : Int32) &&& 31).toUInt32).toInt32) &&& (255 : Int32))), .val (.int (((xi.toUInt32 >>> ((10 : Int32) &&& 31).toUInt32).toInt32) &&& (255 : Int32))), .unset] [])) _
    refine own_go (fun t_ k_ => XS.iloadN X0.here hx rfl (hb hby own_d1_23) rfl k_) ?_
    show own_Goes p e below (s₁.setTop (mkF m 24 #[.val (.int xi), .val (.int (3 : Int32)), .val (.int (((xi.toUInt32 >>> ((2 : Int32) &&& 31).toUInt32).toInt32) &&& (255 : Int32))), .val (.int (((xi.toUInt32 >>> ((10 : Int32) &&& 31).toUInt32).toInt32) &&& (255 : Int32))), .unset] [(.int xi)])) _
    refine own_go (fun t_ k_ => XS.bipush X0.here hx rfl (hb hby own_d1_24) k_) ?_
    show own_Goes p e below (s₁.setTop (mkF m 26 #[.val (.int xi), .val (.int (3 : Int32)), .val (.int (((xi.toUInt32 >>> ((2 : Int32) &&& 31).toUInt32).toInt32) &&& (255 : Int32))), .val (.int (((xi.toUInt32 >>> ((10 : Int32) &&& 31).toUInt32).toInt32) &&& (255 : Int32))), .unset] [(.int (18 : Int32)), (.int xi)])) _
    refine own_go (fun t_ k_ => XS.iushr X0.here hx rfl (hb hby own_d1_26) rfl k_) ?_
    show own_Goes p e below (s₁.setTop (mkF m 27 #[.val (.int xi), .val (.int (3 : Int32)), .val (.int (((xi.toUInt32 >>> ((2 : Int32) &&& 31).toUInt32).toInt32) &&& (255 : Int32))), .val (.int (((xi.toUInt32 >>> ((10 : Int32) &&& 31).toUInt32).toInt32) &&& (255 : Int32))), .unset] [(.int ((xi.toUInt32 >>> ((18 : Int32) &&& 31).toUInt32).toInt32))])) _
    refine own_go (fun t_ k_ => XS.sipush X0.here hx rfl (hb hby own_d1_27) k_) ?_
    show own_Goes p e below (s₁.setTop (mkF m 30 #[.val (.int xi), .val (.int (3 : Int32)), .val (.int (((xi.toUInt32 >>> ((2 : Int32) &&& 31).toUInt32).toInt32) &&& (255 : Int32))), .val (.int (((xi.toUInt32 >>> ((10 : Int32) &&& 31).toUInt32).toInt32) &&& (255 : Int32))), .unset] [(.int (255 : Int32)), (.int ((xi.toUInt32 >>> ((18 : Int32) &&& 31).toUInt32).toInt32))])) _
    refine own_go (fun t_ k_ => XS.iand X0.here hx rfl (hb hby own_d1_30) rfl k_) ?_
    show own_Goes p e below (s₁.setTop (mkF m 31 #[.val (.int xi), .val (.int (3 : Int32)), .val (.int (((xi.toUInt32 >>> ((2 : Int32) &&& 31).toUInt32).toInt32) &&& (255 : Int32))), .val (.int (((xi.toUInt32 >>> ((10 : Int32) &&& 31).toUInt32).toInt32) &&& (255 : Int32))), .unset] [(.int (((xi.toUInt32 >>> ((18 : Int32) &&& 31).toUInt32).toInt32) &&& (255 : Int32)))])) _
    refine own_go (fun t_ k_ => XS.i2c X0.here hx rfl (hb hby own_d1_31) rfl k_) ?_
    show own_Goes p e below (s₁.setTop (mkF m 32 #[.val (.int xi), .val (.int (3 : Int32)), .val (.int (((xi.toUInt32 >>> ((2 : Int32) &&& 31).toUInt32).toInt32) &&& (255 : Int32))), .val (.int (((xi.toUInt32 >>> ((10 : Int32) &&& 31).toUInt32).toInt32) &&& (255 : Int32))), .unset] [(.int ((((xi.toUInt32 >>> ((18 : Int32) &&& 31).toUInt32).toInt32) &&& (255 : Int32)).toUInt32.toUInt16.toUInt32.toInt32))])) _
    rw [i2c_mask]
    show own_Goes p e below (s₁.setTop (mkF m 32 #[.val (.int xi), .val (.int (3 : Int32)), .val (.int (((xi.toUInt32 >>> ((2 : Int32) &&& 31).toUInt32).toInt32) &&& (255 : Int32))), .val (.int (((xi.toUInt32 >>> ((10 : Int32) &&& 31).toUInt32).toInt32) &&& (255 : Int32))), .unset] [(.int (((xi.toUInt32 >>> ((18 : Int32) &&& 31).toUInt32).toInt32) &&& (255 : Int32)))])) _
    refine own_go (fun t_ k_ => XS.istore X0.here hx rfl (hb hby own_d1_32) rfl (l' := #[.val (.int xi), .val (.int (3 : Int32)), .val (.int (((xi.toUInt32 >>> ((2 : Int32) &&& 31).toUInt32).toInt32) &&& (255 : Int32))), .val (.int (((xi.toUInt32 >>> ((10 : Int32) &&& 31).toUInt32).toInt32) &&& (255 : Int32))), .val (.int (((xi.toUInt32 >>> ((18 : Int32) &&& 31).toUInt32).toInt32) &&& (255 : Int32)))]) rfl k_) ?_
    show own_Goes p e below (s₁.setTop (mkF m 34 #[.val (.int xi), .val (.int (3 : Int32)), .val (.int (((xi.toUInt32 >>> ((2 : Int32) &&& 31).toUInt32).toInt32) &&& (255 : Int32))), .val (.int (((xi.toUInt32 >>> ((10 : Int32) &&& 31).toUInt32).toInt32) &&& (255 : Int32))), .val (.int (((xi.toUInt32 >>> ((18 : Int32) &&& 31).toUInt32).toInt32) &&& (255 : Int32)))] [])) _
    refine own_go (fun t_ k_ => XS.iloadN X0.here hx rfl (hb hby own_d1_34) rfl k_) ?_
    show own_Goes p e below (s₁.setTop (mkF m 35 #[.val (.int xi), .val (.int (3 : Int32)), .val (.int (((xi.toUInt32 >>> ((2 : Int32) &&& 31).toUInt32).toInt32) &&& (255 : Int32))), .val (.int (((xi.toUInt32 >>> ((10 : Int32) &&& 31).toUInt32).toInt32) &&& (255 : Int32))), .val (.int (((xi.toUInt32 >>> ((18 : Int32) &&& 31).toUInt32).toInt32) &&& (255 : Int32)))] [(.int (3 : Int32))])) _
    refine own_go (fun t_ k_ => XS.ifYes X0.here hx rfl (pc0 := 35) (pc' := 49) rfl (hb hby own_d1_35) rfl ((if0 _ _).trans (feq (show ¬ ((3 : Int32) = (0 : Int32)) from by decide)).2) (by decide) (by decide) k_) ?_
    show own_Goes p e below (s₁.setTop (mkF m 49 #[.val (.int xi), .val (.int (3 : Int32)), .val (.int (((xi.toUInt32 >>> ((2 : Int32) &&& 31).toUInt32).toInt32) &&& (255 : Int32))), .val (.int (((xi.toUInt32 >>> ((10 : Int32) &&& 31).toUInt32).toInt32) &&& (255 : Int32))), .val (.int (((xi.toUInt32 >>> ((18 : Int32) &&& 31).toUInt32).toInt32) &&& (255 : Int32)))] [])) _
    refine own_go (fun t_ k_ => XS.iloadN X0.here hx rfl (hb hby own_d1_49) rfl k_) ?_
    show own_Goes p e below (s₁.setTop (mkF m 50 #[.val (.int xi), .val (.int (3 : Int32)), .val (.int (((xi.toUInt32 >>> ((2 : Int32) &&& 31).toUInt32).toInt32) &&& (255 : Int32))), .val (.int (((xi.toUInt32 >>> ((10 : Int32) &&& 31).toUInt32).toInt32) &&& (255 : Int32))), .val (.int (((xi.toUInt32 >>> ((18 : Int32) &&& 31).toUInt32).toInt32) &&& (255 : Int32)))] [(.int (3 : Int32))])) _
    refine own_go (fun t_ k_ => XS.iconst X0.here hx rfl (hb hby own_d1_50) k_) ?_
    show own_Goes p e below (s₁.setTop (mkF m 51 #[.val (.int xi), .val (.int (3 : Int32)), .val (.int (((xi.toUInt32 >>> ((2 : Int32) &&& 31).toUInt32).toInt32) &&& (255 : Int32))), .val (.int (((xi.toUInt32 >>> ((10 : Int32) &&& 31).toUInt32).toInt32) &&& (255 : Int32))), .val (.int (((xi.toUInt32 >>> ((18 : Int32) &&& 31).toUInt32).toInt32) &&& (255 : Int32)))] [(.int (1 : Int32)), (.int (3 : Int32))])) _
    refine own_go (fun t_ k_ => XS.icmpYes X0.here hx rfl (pc0 := 51) (pc' := 69) rfl (hb hby own_d1_51) rfl (feq (show ¬ ((3 : Int32) = (1 : Int32)) from by decide)).2 (by decide) (by decide) k_) ?_
    show own_Goes p e below (s₁.setTop (mkF m 69 #[.val (.int xi), .val (.int (3 : Int32)), .val (.int (((xi.toUInt32 >>> ((2 : Int32) &&& 31).toUInt32).toInt32) &&& (255 : Int32))), .val (.int (((xi.toUInt32 >>> ((10 : Int32) &&& 31).toUInt32).toInt32) &&& (255 : Int32))), .val (.int (((xi.toUInt32 >>> ((18 : Int32) &&& 31).toUInt32).toInt32) &&& (255 : Int32)))] [])) _
    refine own_go (fun t_ k_ => XS.iloadN X0.here hx rfl (hb hby own_d1_69) rfl k_) ?_
    show own_Goes p e below (s₁.setTop (mkF m 70 #[.val (.int xi), .val (.int (3 : Int32)), .val (.int (((xi.toUInt32 >>> ((2 : Int32) &&& 31).toUInt32).toInt32) &&& (255 : Int32))), .val (.int (((xi.toUInt32 >>> ((10 : Int32) &&& 31).toUInt32).toInt32) &&& (255 : Int32))), .val (.int (((xi.toUInt32 >>> ((18 : Int32) &&& 31).toUInt32).toInt32) &&& (255 : Int32)))] [(.int (3 : Int32))])) _
    refine own_go (fun t_ k_ => XS.iconst X0.here hx rfl (hb hby own_d1_70) k_) ?_
    show own_Goes p e below (s₁.setTop (mkF m 71 #[.val (.int xi), .val (.int (3 : Int32)), .val (.int (((xi.toUInt32 >>> ((2 : Int32) &&& 31).toUInt32).toInt32) &&& (255 : Int32))), .val (.int (((xi.toUInt32 >>> ((10 : Int32) &&& 31).toUInt32).toInt32) &&& (255 : Int32))), .val (.int (((xi.toUInt32 >>> ((18 : Int32) &&& 31).toUInt32).toInt32) &&& (255 : Int32)))] [(.int (2 : Int32)), (.int (3 : Int32))])) _
    refine own_go (fun t_ k_ => XS.icmpYes X0.here hx rfl (pc0 := 71) (pc' := 93) rfl (hb hby own_d1_71) rfl (feq (show ¬ ((3 : Int32) = (2 : Int32)) from by decide)).2 (by decide) (by decide) k_) ?_
    show own_Goes p e below (s₁.setTop (mkF m 93 #[.val (.int xi), .val (.int (3 : Int32)), .val (.int (((xi.toUInt32 >>> ((2 : Int32) &&& 31).toUInt32).toInt32) &&& (255 : Int32))), .val (.int (((xi.toUInt32 >>> ((10 : Int32) &&& 31).toUInt32).toInt32) &&& (255 : Int32))), .val (.int (((xi.toUInt32 >>> ((18 : Int32) &&& 31).toUInt32).toInt32) &&& (255 : Int32)))] [])) _
    obtain ⟨T107, h107, X107, e107, E107, A107, D107, -, st107⟩ := newO X0 hx hZ hown (hw _ (List.mem_of_getElem? (i := 4) rfl)) (hw _ (List.mem_of_getElem? (i := 5) rfl)) (hw _ (List.mem_of_getElem? (i := 6) rfl)) e0 (g := (mkF m 93 #[.val (.int xi), .val (.int (3 : Int32)), .val (.int (((xi.toUInt32 >>> ((2 : Int32) &&& 31).toUInt32).toInt32) &&& (255 : Int32))), .val (.int (((xi.toUInt32 >>> ((10 : Int32) &&& 31).toUInt32).toInt32) &&& (255 : Int32))), .val (.int (((xi.toUInt32 >>> ((18 : Int32) &&& 31).toUInt32).toInt32) &&& (255 : Int32)))] [])) rfl (hb hby own_d1_93) (by decide) (by decide)
    obtain ⟨b107, g107⟩ : ∃ z, z = h0.size := ⟨_, rfl⟩
    rw [← g107] at A107 D107 st107
    refine own_go st107 ?_
    have O108 := O0.ext E107
    have sz109 : h0.size ≤ h107.size := E107.1
    have cs110 := CHr.ext E107 CR0.1
    have CR111 := CHr.trans CR0 cs110
    have hk112 := Nat.le_trans hk0 E107.1
    have K113 := K0.ext E107
    have l107 : @LT.lt Nat _ b107 h107.size := A107.lt
    have F107_coder : Fld Z h107 b107 "java/lang/String" "coder" "B" (.int (0 : Int32)) := D107 (Or.inr (hw _ (List.mem_of_getElem? (i := 31) rfl))) (ty := .byte) (by decide)
    have F107_value : Fld Z h107 b107 "java/lang/String" "value" "[B" .null := D107 (Or.inr (hw _ (List.mem_of_getElem? (i := 33) rfl))) (ty := (.array .byte)) (by decide)
    show own_Goes p e below (T107.setTop (mkF m 96 #[.val (.int xi), .val (.int (3 : Int32)), .val (.int (((xi.toUInt32 >>> ((2 : Int32) &&& 31).toUInt32).toInt32) &&& (255 : Int32))), .val (.int (((xi.toUInt32 >>> ((10 : Int32) &&& 31).toUInt32).toInt32) &&& (255 : Int32))), .val (.int (((xi.toUInt32 >>> ((18 : Int32) &&& 31).toUInt32).toInt32) &&& (255 : Int32)))] [(.ref b107)])) _
    refine own_go (fun t_ k_ => XS.dup X107.here hx rfl (hb hby own_d1_96) rfl rfl k_) ?_
    show own_Goes p e below (T107.setTop (mkF m 97 #[.val (.int xi), .val (.int (3 : Int32)), .val (.int (((xi.toUInt32 >>> ((2 : Int32) &&& 31).toUInt32).toInt32) &&& (255 : Int32))), .val (.int (((xi.toUInt32 >>> ((10 : Int32) &&& 31).toUInt32).toInt32) &&& (255 : Int32))), .val (.int (((xi.toUInt32 >>> ((18 : Int32) &&& 31).toUInt32).toInt32) &&& (255 : Int32)))] [(.ref b107), (.ref b107)])) _
    refine own_go (fun t_ k_ => XS.iconst X107.here hx rfl (hb hby own_d1_97) k_) ?_
    show own_Goes p e below (T107.setTop (mkF m 98 #[.val (.int xi), .val (.int (3 : Int32)), .val (.int (((xi.toUInt32 >>> ((2 : Int32) &&& 31).toUInt32).toInt32) &&& (255 : Int32))), .val (.int (((xi.toUInt32 >>> ((10 : Int32) &&& 31).toUInt32).toInt32) &&& (255 : Int32))), .val (.int (((xi.toUInt32 >>> ((18 : Int32) &&& 31).toUInt32).toInt32) &&& (255 : Int32)))] [(.int (3 : Int32)), (.ref b107), (.ref b107)])) _
    obtain ⟨T114, h114, k114, X114, e114, E114, A114, st114⟩ := newP X107 hx hZ (hw _ (List.mem_of_getElem? (i := 7) rfl)) e107 (g := (mkF m 98 #[.val (.int xi), .val (.int (3 : Int32)), .val (.int (((xi.toUInt32 >>> ((2 : Int32) &&& 31).toUInt32).toInt32) &&& (255 : Int32))), .val (.int (((xi.toUInt32 >>> ((10 : Int32) &&& 31).toUInt32).toInt32) &&& (255 : Int32))), .val (.int (((xi.toUInt32 >>> ((18 : Int32) &&& 31).toUInt32).toInt32) &&& (255 : Int32)))] [(.int (3 : Int32)), (.ref b107), (.ref b107)])) rfl (hb hby own_d1_98) rfl (by decide) (cap := 3) (by decide) (by decide) (by decide) (by decide)
    obtain ⟨b114, g114⟩ : ∃ z, z = h107.size := ⟨_, rfl⟩
    rw [← g114] at A114 st114
    refine own_go st114 ?_
    have O115 := O108.ext E114
    have sz116 : h107.size ≤ h114.size := E114.1
    have cs117 := CHr.ext E114 CR111.1
    have CR118 := CHr.trans CR111 cs117
    have hk119 := Nat.le_trans hk112 E114.1
    have K120 := K113.ext E114
    have l114 : @LT.lt Nat _ b114 h114.size := A114.lt
    have V114 : Arv Z h114 b114 k114 .char (3 : Int32) [(.int (0 : Int32)), (.int (0 : Int32)), (.int (0 : Int32))] (.int (0 : Int32)) := (Arv.new A114 (by decide)).pad (pad_rep [] (.int (0 : Int32)) 3)
    show own_Goes p e below (T114.setTop (mkF m 100 #[.val (.int xi), .val (.int (3 : Int32)), .val (.int (((xi.toUInt32 >>> ((2 : Int32) &&& 31).toUInt32).toInt32) &&& (255 : Int32))), .val (.int (((xi.toUInt32 >>> ((10 : Int32) &&& 31).toUInt32).toInt32) &&& (255 : Int32))), .val (.int (((xi.toUInt32 >>> ((18 : Int32) &&& 31).toUInt32).toInt32) &&& (255 : Int32)))] [(.ref b114), (.ref b107), (.ref b107)])) _
    refine own_go (fun t_ k_ => XS.dup X114.here hx rfl (hb hby own_d1_100) rfl rfl k_) ?_
    show own_Goes p e below (T114.setTop (mkF m 101 #[.val (.int xi), .val (.int (3 : Int32)), .val (.int (((xi.toUInt32 >>> ((2 : Int32) &&& 31).toUInt32).toInt32) &&& (255 : Int32))), .val (.int (((xi.toUInt32 >>> ((10 : Int32) &&& 31).toUInt32).toInt32) &&& (255 : Int32))), .val (.int (((xi.toUInt32 >>> ((18 : Int32) &&& 31).toUInt32).toInt32) &&& (255 : Int32)))] [(.ref b114), (.ref b114), (.ref b107), (.ref b107)])) _
    refine own_go (fun t_ k_ => XS.iconst X114.here hx rfl (hb hby own_d1_101) k_) ?_
    show own_Goes p e below (T114.setTop (mkF m 102 #[.val (.int xi), .val (.int (3 : Int32)), .val (.int (((xi.toUInt32 >>> ((2 : Int32) &&& 31).toUInt32).toInt32) &&& (255 : Int32))), .val (.int (((xi.toUInt32 >>> ((10 : Int32) &&& 31).toUInt32).toInt32) &&& (255 : Int32))), .val (.int (((xi.toUInt32 >>> ((18 : Int32) &&& 31).toUInt32).toInt32) &&& (255 : Int32)))] [(.int (0 : Int32)), (.ref b114), (.ref b114), (.ref b107), (.ref b107)])) _
    refine own_go (fun t_ k_ => XS.iloadN X114.here hx rfl (hb hby own_d1_102) rfl k_) ?_
    show own_Goes p e below (T114.setTop (mkF m 103 #[.val (.int xi), .val (.int (3 : Int32)), .val (.int (((xi.toUInt32 >>> ((2 : Int32) &&& 31).toUInt32).toInt32) &&& (255 : Int32))), .val (.int (((xi.toUInt32 >>> ((10 : Int32) &&& 31).toUInt32).toInt32) &&& (255 : Int32))), .val (.int (((xi.toUInt32 >>> ((18 : Int32) &&& 31).toUInt32).toInt32) &&& (255 : Int32)))] [(.int (((xi.toUInt32 >>> ((2 : Int32) &&& 31).toUInt32).toInt32) &&& (255 : Int32))), (.int (0 : Int32)), (.ref b114), (.ref b114), (.ref b107), (.ref b107)])) _
    obtain ⟨clu121, Aru121, qu121, Szu121, Ngu121, Hsu121, Gsu121⟩ := id V114
    have inu121 : ¬ ((0 : Int32) < 0 ∨ clu121.slots.size ≤ ((0 : Int32)).toNatClampNeg) := inb_of Szu121 ⟨by decide, by decide⟩
    obtain ⟨T122, h122, X122, e122, W122, st122⟩ := stC X114 hx hZ e114 Aru121 (j := (0 : Int32)) inu121 (g := (mkF m 103 #[.val (.int xi), .val (.int (3 : Int32)), .val (.int (((xi.toUInt32 >>> ((2 : Int32) &&& 31).toUInt32).toInt32) &&& (255 : Int32))), .val (.int (((xi.toUInt32 >>> ((10 : Int32) &&& 31).toUInt32).toInt32) &&& (255 : Int32))), .val (.int (((xi.toUInt32 >>> ((18 : Int32) &&& 31).toUInt32).toInt32) &&& (255 : Int32)))] [(.int (((xi.toUInt32 >>> ((2 : Int32) &&& 31).toUInt32).toInt32) &&& (255 : Int32))), (.int (0 : Int32)), (.ref b114), (.ref b114), (.ref b107), (.ref b107)])) rfl rfl (hb hby own_d1_103)
    refine own_go st122 ?_
    have V122 := Arv.set Aru121 qu121 Szu121 Ngu121 Hsu121 Gsu121 (fits_nar_char _) W122 0 rfl (Nat.le_of_ble_eq_true rfl)
    rw [own_narM] at V122
    have O123 := O115.wr W122 (show n0 ≤ b114 by omega)
    have sz124 : h122.size = h114.size := Wr.size W122
    have cs125 := CHr.wr W122 (Safe.arv hZ.alike V114 (by decide)) CR118.1
    have CR126 := CHr.trans CR118 cs125
    have hk127 := Nat.le_trans hk119 (Nat.le_of_eq (Wr.size W122).symm)
    have K128 := K120.wr W122 (Or.inr (show h0.size ≤ b114 by omega))
    have N122 := Fr.snoc X122 N0 (show n0 ≤ b114 by omega)
    have V122 : Arv Z h122 b114 k114 .char (3 : Int32) [(.int (((xi.toUInt32 >>> ((2 : Int32) &&& 31).toUInt32).toInt32) &&& (255 : Int32))), (.int (0 : Int32)), (.int (0 : Int32))] (.int (0 : Int32)) := V122
    show own_Goes p e below (T122.setTop (mkF m 104 #[.val (.int xi), .val (.int (3 : Int32)), .val (.int (((xi.toUInt32 >>> ((2 : Int32) &&& 31).toUInt32).toInt32) &&& (255 : Int32))), .val (.int (((xi.toUInt32 >>> ((10 : Int32) &&& 31).toUInt32).toInt32) &&& (255 : Int32))), .val (.int (((xi.toUInt32 >>> ((18 : Int32) &&& 31).toUInt32).toInt32) &&& (255 : Int32)))] [(.ref b114), (.ref b107), (.ref b107)])) _
    refine own_go (fun t_ k_ => XS.dup X122.here hx rfl (hb hby own_d1_104) rfl rfl k_) ?_
    show own_Goes p e below (T122.setTop (mkF m 105 #[.val (.int xi), .val (.int (3 : Int32)), .val (.int (((xi.toUInt32 >>> ((2 : Int32) &&& 31).toUInt32).toInt32) &&& (255 : Int32))), .val (.int (((xi.toUInt32 >>> ((10 : Int32) &&& 31).toUInt32).toInt32) &&& (255 : Int32))), .val (.int (((xi.toUInt32 >>> ((18 : Int32) &&& 31).toUInt32).toInt32) &&& (255 : Int32)))] [(.ref b114), (.ref b114), (.ref b107), (.ref b107)])) _
    refine own_go (fun t_ k_ => XS.iconst X122.here hx rfl (hb hby own_d1_105) k_) ?_
    show own_Goes p e below (T122.setTop (mkF m 106 #[.val (.int xi), .val (.int (3 : Int32)), .val (.int (((xi.toUInt32 >>> ((2 : Int32) &&& 31).toUInt32).toInt32) &&& (255 : Int32))), .val (.int (((xi.toUInt32 >>> ((10 : Int32) &&& 31).toUInt32).toInt32) &&& (255 : Int32))), .val (.int (((xi.toUInt32 >>> ((18 : Int32) &&& 31).toUInt32).toInt32) &&& (255 : Int32)))] [(.int (1 : Int32)), (.ref b114), (.ref b114), (.ref b107), (.ref b107)])) _
    refine own_go (fun t_ k_ => XS.iloadN X122.here hx rfl (hb hby own_d1_106) rfl k_) ?_
    show own_Goes p e below (T122.setTop (mkF m 107 #[.val (.int xi), .val (.int (3 : Int32)), .val (.int (((xi.toUInt32 >>> ((2 : Int32) &&& 31).toUInt32).toInt32) &&& (255 : Int32))), .val (.int (((xi.toUInt32 >>> ((10 : Int32) &&& 31).toUInt32).toInt32) &&& (255 : Int32))), .val (.int (((xi.toUInt32 >>> ((18 : Int32) &&& 31).toUInt32).toInt32) &&& (255 : Int32)))] [(.int (((xi.toUInt32 >>> ((10 : Int32) &&& 31).toUInt32).toInt32) &&& (255 : Int32))), (.int (1 : Int32)), (.ref b114), (.ref b114), (.ref b107), (.ref b107)])) _
    obtain ⟨clu129, Aru129, qu129, Szu129, Ngu129, Hsu129, Gsu129⟩ := id V122
    have inu129 : ¬ ((1 : Int32) < 0 ∨ clu129.slots.size ≤ ((1 : Int32)).toNatClampNeg) := inb_of Szu129 ⟨by decide, by decide⟩
    obtain ⟨T130, h130, X130, e130, W130, st130⟩ := stC X122 hx hZ e122 Aru129 (j := (1 : Int32)) inu129 (g := (mkF m 107 #[.val (.int xi), .val (.int (3 : Int32)), .val (.int (((xi.toUInt32 >>> ((2 : Int32) &&& 31).toUInt32).toInt32) &&& (255 : Int32))), .val (.int (((xi.toUInt32 >>> ((10 : Int32) &&& 31).toUInt32).toInt32) &&& (255 : Int32))), .val (.int (((xi.toUInt32 >>> ((18 : Int32) &&& 31).toUInt32).toInt32) &&& (255 : Int32)))] [(.int (((xi.toUInt32 >>> ((10 : Int32) &&& 31).toUInt32).toInt32) &&& (255 : Int32))), (.int (1 : Int32)), (.ref b114), (.ref b114), (.ref b107), (.ref b107)])) rfl rfl (hb hby own_d1_107)
    refine own_go st130 ?_
    have V130 := Arv.set Aru129 qu129 Szu129 Ngu129 Hsu129 Gsu129 (fits_nar_char _) W130 1 rfl (Nat.le_of_ble_eq_true rfl)
    rw [own_narM] at V130
    have O131 := O123.wr W130 (show n0 ≤ b114 by omega)
    have sz132 : h130.size = h122.size := Wr.size W130
    have cs133 := CHr.wr W130 (Safe.arv hZ.alike V122 (by decide)) CR126.1
    have CR134 := CHr.trans CR126 cs133
    have hk135 := Nat.le_trans hk127 (Nat.le_of_eq (Wr.size W130).symm)
    have K136 := K128.wr W130 (Or.inr (show h0.size ≤ b114 by omega))
    have N130 := Fr.snoc X130 N122 (show n0 ≤ b114 by omega)
    have V130 : Arv Z h130 b114 k114 .char (3 : Int32) [(.int (((xi.toUInt32 >>> ((2 : Int32) &&& 31).toUInt32).toInt32) &&& (255 : Int32))), (.int (((xi.toUInt32 >>> ((10 : Int32) &&& 31).toUInt32).toInt32) &&& (255 : Int32))), (.int (0 : Int32))] (.int (0 : Int32)) := V130
    show own_Goes p e below (T130.setTop (mkF m 108 #[.val (.int xi), .val (.int (3 : Int32)), .val (.int (((xi.toUInt32 >>> ((2 : Int32) &&& 31).toUInt32).toInt32) &&& (255 : Int32))), .val (.int (((xi.toUInt32 >>> ((10 : Int32) &&& 31).toUInt32).toInt32) &&& (255 : Int32))), .val (.int (((xi.toUInt32 >>> ((18 : Int32) &&& 31).toUInt32).toInt32) &&& (255 : Int32)))] [(.ref b114), (.ref b107), (.ref b107)])) _
    refine own_go (fun t_ k_ => XS.dup X130.here hx rfl (hb hby own_d1_108) rfl rfl k_) ?_
    show own_Goes p e below (T130.setTop (mkF m 109 #[.val (.int xi), .val (.int (3 : Int32)), .val (.int (((xi.toUInt32 >>> ((2 : Int32) &&& 31).toUInt32).toInt32) &&& (255 : Int32))), .val (.int (((xi.toUInt32 >>> ((10 : Int32) &&& 31).toUInt32).toInt32) &&& (255 : Int32))), .val (.int (((xi.toUInt32 >>> ((18 : Int32) &&& 31).toUInt32).toInt32) &&& (255 : Int32)))] [(.ref b114), (.ref b114), (.ref b107), (.ref b107)])) _
    refine own_go (fun t_ k_ => XS.iconst X130.here hx rfl (hb hby own_d1_109) k_) ?_
    show own_Goes p e below (T130.setTop (mkF m 110 #[.val (.int xi), .val (.int (3 : Int32)), .val (.int (((xi.toUInt32 >>> ((2 : Int32) &&& 31).toUInt32).toInt32) &&& (255 : Int32))), .val (.int (((xi.toUInt32 >>> ((10 : Int32) &&& 31).toUInt32).toInt32) &&& (255 : Int32))), .val (.int (((xi.toUInt32 >>> ((18 : Int32) &&& 31).toUInt32).toInt32) &&& (255 : Int32)))] [(.int (2 : Int32)), (.ref b114), (.ref b114), (.ref b107), (.ref b107)])) _
    refine own_go (fun t_ k_ => XS.iload X130.here hx rfl (hb hby own_d1_110) rfl k_) ?_
    show own_Goes p e below (T130.setTop (mkF m 112 #[.val (.int xi), .val (.int (3 : Int32)), .val (.int (((xi.toUInt32 >>> ((2 : Int32) &&& 31).toUInt32).toInt32) &&& (255 : Int32))), .val (.int (((xi.toUInt32 >>> ((10 : Int32) &&& 31).toUInt32).toInt32) &&& (255 : Int32))), .val (.int (((xi.toUInt32 >>> ((18 : Int32) &&& 31).toUInt32).toInt32) &&& (255 : Int32)))] [(.int (((xi.toUInt32 >>> ((18 : Int32) &&& 31).toUInt32).toInt32) &&& (255 : Int32))), (.int (2 : Int32)), (.ref b114), (.ref b114), (.ref b107), (.ref b107)])) _
    obtain ⟨clu137, Aru137, qu137, Szu137, Ngu137, Hsu137, Gsu137⟩ := id V130
    have inu137 : ¬ ((2 : Int32) < 0 ∨ clu137.slots.size ≤ ((2 : Int32)).toNatClampNeg) := inb_of Szu137 ⟨by decide, by decide⟩
    obtain ⟨T138, h138, X138, e138, W138, st138⟩ := stC X130 hx hZ e130 Aru137 (j := (2 : Int32)) inu137 (g := (mkF m 112 #[.val (.int xi), .val (.int (3 : Int32)), .val (.int (((xi.toUInt32 >>> ((2 : Int32) &&& 31).toUInt32).toInt32) &&& (255 : Int32))), .val (.int (((xi.toUInt32 >>> ((10 : Int32) &&& 31).toUInt32).toInt32) &&& (255 : Int32))), .val (.int (((xi.toUInt32 >>> ((18 : Int32) &&& 31).toUInt32).toInt32) &&& (255 : Int32)))] [(.int (((xi.toUInt32 >>> ((18 : Int32) &&& 31).toUInt32).toInt32) &&& (255 : Int32))), (.int (2 : Int32)), (.ref b114), (.ref b114), (.ref b107), (.ref b107)])) rfl rfl (hb hby own_d1_112)
    refine own_go st138 ?_
    have V138 := Arv.set Aru137 qu137 Szu137 Ngu137 Hsu137 Gsu137 (fits_nar_char _) W138 2 rfl (Nat.le_of_ble_eq_true rfl)
    rw [own_narM] at V138
    have O139 := O131.wr W138 (show n0 ≤ b114 by omega)
    have sz140 : h138.size = h130.size := Wr.size W138
    have cs141 := CHr.wr W138 (Safe.arv hZ.alike V130 (by decide)) CR134.1
    have CR142 := CHr.trans CR134 cs141
    have hk143 := Nat.le_trans hk135 (Nat.le_of_eq (Wr.size W138).symm)
    have K144 := K136.wr W138 (Or.inr (show h0.size ≤ b114 by omega))
    have N138 := Fr.snoc X138 N130 (show n0 ≤ b114 by omega)
    have V138 : Arv Z h138 b114 k114 .char (3 : Int32) [(.int (((xi.toUInt32 >>> ((2 : Int32) &&& 31).toUInt32).toInt32) &&& (255 : Int32))), (.int (((xi.toUInt32 >>> ((10 : Int32) &&& 31).toUInt32).toInt32) &&& (255 : Int32))), (.int (((xi.toUInt32 >>> ((18 : Int32) &&& 31).toUInt32).toInt32) &&& (255 : Int32)))] (.int (0 : Int32)) := V138
    show own_Goes p e below (T138.setTop (mkF m 113 #[.val (.int xi), .val (.int (3 : Int32)), .val (.int (((xi.toUInt32 >>> ((2 : Int32) &&& 31).toUInt32).toInt32) &&& (255 : Int32))), .val (.int (((xi.toUInt32 >>> ((10 : Int32) &&& 31).toUInt32).toInt32) &&& (255 : Int32))), .val (.int (((xi.toUInt32 >>> ((18 : Int32) &&& 31).toUInt32).toInt32) &&& (255 : Int32)))] [(.ref b114), (.ref b107), (.ref b107)])) _
    have f145 := ((((A107.ext E114).wr W122).wr W130).wr W138)
    have f146 := ((((F107_value.ext E114).other W122 (Or.inl (own_ne (a := b107) (b := b114) (by omega)))).other W130 (Or.inl (own_ne (a := b107) (b := b114) (by omega)))).other W138 (Or.inl (own_ne (a := b107) (b := b114) (by omega))))
    have f147 := ((((F107_coder.ext E114).other W122 (Or.inl (own_ne (a := b107) (b := b114) (by omega)))).other W130 (Or.inl (own_ne (a := b107) (b := b114) (by omega)))).other W138 (Or.inl (own_ne (a := b107) (b := b114) (by omega))))
    have q148 := G0.ext O139.2
    have hp149 : ∀ c_ ∈ ([(((xi.toUInt32 >>> ((2 : Int32) &&& 31).toUInt32).toInt32) &&& (255 : Int32)), (((xi.toUInt32 >>> ((10 : Int32) &&& 31).toUInt32).toInt32) &&& (255 : Int32)), (((xi.toUInt32 >>> ((18 : Int32) &&& 31).toUInt32).toInt32) &&& (255 : Int32))] : List Int32), ¬ c_ < 0 ∧ ¬ (255 : Int32) < c_ := by
      intro c_ hc_
      simp only [List.mem_cons, List.not_mem_nil, or_false] at hc_
      rcases hc_ with rfl | rfl | rfl
      · exact (own_ch255 _)
      · exact (own_ch255 _)
      · exact (own_ch255 _)
    obtain ⟨_, _, ⟨T150, L150, k150, n150⟩, -, X150, ⟨Lc150, hQ150, l150, y150, z150⟩, st150⟩ := X138.specialBack hx (y := (⟨"java/lang/String", "<init>", "([C)V"⟩ : MethodName)) rfl hown (mvT hZ (hw _ (List.mem_of_getElem? (i := 8) rfl))) (mvT hZ (hw _ (List.mem_of_getElem? (i := 9) rfl))) (mvT hZ (hw _ (List.mem_of_getElem? (i := 10) rfl))) (by decide) (StrChars.Road.backV (W := 1) hZ (own_wV hw) (kI := 4) (hw _ (List.mem_of_getElem? (i := 5) rfl)) (cs := ([(((xi.toUInt32 >>> ((2 : Int32) &&& 31).toUInt32).toInt32) &&& (255 : Int32)), (((xi.toUInt32 >>> ((10 : Int32) &&& 31).toUInt32).toInt32) &&& (255 : Int32)), (((xi.toUInt32 >>> ((18 : Int32) &&& 31).toUInt32).toInt32) &&& (255 : Int32))] : List Int32)) (bs := ([(((xi.toUInt32 >>> ((2 : Int32) &&& 31).toUInt32).toInt32) &&& (255 : Int32)), (((xi.toUInt32 >>> ((10 : Int32) &&& 31).toUInt32).toInt32) &&& (255 : Int32)), (((xi.toUInt32 >>> ((18 : Int32) &&& 31).toUInt32).toInt32) &&& (255 : Int32))] : List Int32).map (fun c => c.toInt8.toInt32)) (n := 3) (show n0 ≤ b107 by omega) (show n0 ≤ h138.size by omega) f145 f146 f147 V138 q148 G1 rfl rfl (by decide) (by decide) hp149 rfl (by decide) (by decide)) (g := (mkF m 113 #[.val (.int xi), .val (.int (3 : Int32)), .val (.int (((xi.toUInt32 >>> ((2 : Int32) &&& 31).toUInt32).toInt32) &&& (255 : Int32))), .val (.int (((xi.toUInt32 >>> ((10 : Int32) &&& 31).toUInt32).toInt32) &&& (255 : Int32))), .val (.int (((xi.toUInt32 >>> ((18 : Int32) &&& 31).toUInt32).toInt32) &&& (255 : Int32)))] [(.ref b114), (.ref b107), (.ref b107)])) rfl (by rw [hml]; rfl) (Steps.refl _) (a := b107) (argsL := [(.ref b114)]) (rest := [(.ref b107)]) (lenOf own_pd_2 rfl) rfl (by show 2 * 0 + _ ≤ _; exact Nat.le_of_eq rfl) (hb hby own_d1_113) (fun _ _ => ⟨rfl, e138, (by decide : 2 + 1 ≤ _), (by decide : 7 + 3 ≤ _)⟩)
    dsimp only [Pt.U, Pt.locs, Pt.cells, Pt.slots] at X150 l150 y150 z150 st150 hQ150
    subst l150 y150 z150
    obtain ⟨h150, e150⟩ : ∃ z, T150.heap = z := ⟨_, rfl⟩
    rw [e150] at hQ150
    obtain ⟨rfl, Nc150, Kc150, Es150, Cs150, t150, kb150, ta150, tb150, tc150, Vs150, As150⟩ := hQ150
    have N150 := Fr.app N138 Nc150
    have SF151 : Safe Z consts_1 _ h138 b107 := own_safeNull hZ.alike f145 f146
    have O152 := O139.keep Kc150 (allS (show n0 ≤ b107 by omega) all0)
    have sz153 : h138.size ≤ h150.size := Kc150.1
    have cs154 := CHr.keep Kc150 (sfS SF151 sf0) CR142.1
    have CR155 := CHr.trans CR142 cs154
    have SF156 := CHr.safe cs154 (show @LT.lt Nat _ b107 h138.size by omega) SF151
    have hk157 := Nat.le_trans hk143 Kc150.1
    have K158 := Keep.trans K144 Kc150 (allS (Or.inr (show h0.size ≤ b107 by omega)) all0)
    have lt150 : @LT.lt Nat _ t150 h150.size := As150.lt
    have lx150 : @LT.lt Nat _ b107 h150.size := Es150.lt
    refine own_goS st150 ?_
    show own_Goes p e below (T150.setTop (mkF m 116 #[.val (.int xi), .val (.int (3 : Int32)), .val (.int (((xi.toUInt32 >>> ((2 : Int32) &&& 31).toUInt32).toInt32) &&& (255 : Int32))), .val (.int (((xi.toUInt32 >>> ((10 : Int32) &&& 31).toUInt32).toInt32) &&& (255 : Int32))), .val (.int (((xi.toUInt32 >>> ((18 : Int32) &&& 31).toUInt32).toInt32) &&& (255 : Int32)))] [(.ref b107)])) _
    refine own_endH X150 hS0 (show _ ≤ T150.heap.size by rw [e150]; exact hk157) e150 hh CR155 hZ (own_EW hw) (v := (some (.ref b107))) (fun h => by rw [hret] at h; cases h) hlk (by decide) (by decide) ?_ (fun fs hr => retOut X150 hx hret rfl (Or.inr (Or.inr (Or.inr (Or.inr ⟨rfl, rfl, rfl⟩)))) (hb hby own_d1_116) hr)
    show Q_own_str Z xi gz gwE gwO gwA gk h0 n0 _ T150.heap _
    rw [e150]
    exact ⟨N150, K158, b107, rfl, Es150, (show h0.size ≤ b107 by first | assumption | omega | decide)⟩
theorem own_d16_0 : decode jdk_31_method_10_code 0 = .ok (.aload_n 0, 1) := by decide +kernel
theorem own_d16_1 : decode jdk_31_method_10_code 1 = .ok (.ifnonnull 11, 3) := by decide +kernel
theorem own_d16_12 : decode jdk_31_method_10_code 12 = .ok (.aload_n 0, 1) := by decide +kernel
theorem own_d16_13 : decode jdk_31_method_10_code 13 = .ok (.areturn, 1) := by decide +kernel
theorem own_pn_java_util_Objects : plainName "java/util/Objects" = true := by first | (simp [plainName, overriddenIn]; done) | decide +kernel
theorem own_ef_own_rnn1 (m : MethodId) (xa : Addr) : entryFrame m #[(.ref xa)] 1 = mkF m 0 #[.val (.ref xa)] [] := by first | (simp [entryFrame, mkF, argsToLocals, Value.category]; done) | rfl
def Q_own_rnn1 (Z : State) (xa : Addr) (h0 : Heap) (n0 : Nat) (v : Option Value) (h : Heap) (L : List Loc) : Prop := Fr n0 L ∧ h = h0 ∧ v = some (.ref xa)
set_option maxRecDepth 65536 in
set_option maxHeartbeats 40000000 in
theorem own_rnn1 (l : Launch) (Z : State) (a0 : Array Value) (hw : ∀ d ∈ tables_1, d.before a0 Z = true) (ws : List Jvm.Cond) (xa : Addr) (h0 : Heap) (n0 : Nat) (O0 : Old Z n0 h0) :
    MetFree l (⟨"java/util/Objects", "requireNonNull", "(Ljava/lang/Object;)Ljava/lang/Object;"⟩ : MethodName) (head1 (Jvm.Cond.code (⟨"java/util/Objects", "requireNonNull", "(Ljava/lang/Object;)Ljava/lang/Object;"⟩ : MethodName) jdk_31_method_10_code 1 (some (.object "java/lang/Object")) :: ws) ({ frames := 0, cells := 0, slots := 0, locals := 0 } : Room)) (fun as_ U_ => as_ = #[(.ref xa)] ∧ Z.Warmed39 U_.vm ∧ U_.heap = h0) (fun _ _ _ _ _ => True) (fun _ U_ o_ U2_ => ∃ v_ L_, o_ = .returned v_ ∧ Q_own_rnn1 Z xa h0 n0 v_ U2_.heap L_ ∧ FrameEnd U_ o_ U2_ L_ ({ frames := 0, cells := 0, slots := 0, locals := 0 } : Room).cells ({ frames := 0, cells := 0, slots := 0, locals := 0 } : Room).slots) := by
  refine MetFree.of_bodySF (plainFor_of_name own_pn_java_util_Objects) hisR ?_
  intro p e s m args below meth c s₁ Bd hml0 hP hK
  obtain ⟨rfl, hZ, hh⟩ := hP
  have hx := Bd.exec
  have hby := Bd.bytes
  have hml : c.maxLocals = 1 := hml0
  have hown : s.vm.findClass "java/util/Objects" = some m.cls := findClass_of_methodNamed Bd.named
  have hnm := (name_of_methodNamed Bd.named Bd.method).1
  have hlk : meth.locks = false := Bd.notSynchronized
  have hret := Bd.returns
  have X0 : Stand p l e ({ frames := 0, cells := 0, slots := 0, locals := 0 } : Room) s m #[(.ref xa)] below meth c s₁ [] 0 0 := Stand.of_body Bd
  have e0 : s₁.heap = h0 := by rw [← hh, Bd.state]; rfl
  have N0 := Fr.nil n0
  have z0 : Z.heap.size = n0 := O0.1
  have z1 : n0 ≤ h0.size := z0 ▸ O0.2.1
  show own_Goes p e below (s₁.setTop (entryFrame m #[(.ref xa)] 1)) (own_PostN s (Q_own_rnn1 Z xa h0 n0) ({ frames := 0, cells := 0, slots := 0, locals := 0 } : Room).cells ({ frames := 0, cells := 0, slots := 0, locals := 0 } : Room).slots)
  refine own_cast (own_ef_own_rnn1 m xa) ?_
  show own_Goes p e below (s₁.setTop (mkF m 0 #[.val (.ref xa)] [])) _
  refine own_go (fun t_ k_ => XS.aloadN X0.here hx rfl (hb hby own_d16_0) rfl rfl k_) ?_
  show own_Goes p e below (s₁.setTop (mkF m 1 #[.val (.ref xa)] [(.ref xa)])) _
  refine own_go (fun t_ k_ => XS.ifnonnullYes X0.here hx rfl (pc0 := 1) (pc' := 12) rfl (hb hby own_d16_1) rfl (by decide) (by decide) k_) ?_
  show own_Goes p e below (s₁.setTop (mkF m 12 #[.val (.ref xa)] [])) _
  refine own_go (fun t_ k_ => XS.aloadN X0.here hx rfl (hb hby own_d16_12) rfl rfl k_) ?_
  show own_Goes p e below (s₁.setTop (mkF m 13 #[.val (.ref xa)] [(.ref xa)])) _
  refine own_endN X0 (v := (some (.ref xa))) (fun h => by rw [hret] at h; cases h) hlk (by decide) (by decide) ?_ (fun fs hr => retOut X0 hx hret rfl (Or.inr (Or.inr (Or.inr (Or.inr ⟨rfl, rfl, rfl⟩)))) (hb hby own_d16_13) hr)
  show Q_own_rnn1 Z xa h0 n0 _ s₁.heap _
  rw [e0]
  exact ⟨N0, rfl, rfl⟩
theorem own_d20_0 : decode jdk_22_method_1_code 0 = .ok (.aload_n 0, 1) := by decide +kernel
theorem own_d20_1 : decode jdk_22_method_1_code 1 = .ok (.invokespecial 1, 3) := by decide +kernel
theorem own_d20_4 : decode jdk_22_method_1_code 4 = .ok (.return_, 1) := by decide +kernel
theorem own_pn_java_util_AbstractCollection : plainName "java/util/AbstractCollection" = true := by first | (simp [plainName, overriddenIn]; done) | decide +kernel
theorem own_ef_own_acInit (m : MethodId) (xa : Addr) : entryFrame m #[(.ref xa)] 1 = mkF m 0 #[.val (.ref xa)] [] := by first | (simp [entryFrame, mkF, argsToLocals, Value.category]; done) | rfl
def Q_own_acInit (Z : State) (xa : Addr) (h0 : Heap) (n0 : Nat) (v : Option Value) (h : Heap) (L : List Loc) : Prop := Fr n0 L ∧ h = h0 ∧ v = none
set_option maxRecDepth 65536 in
set_option maxHeartbeats 40000000 in
theorem own_acInit (l : Launch) (Z : State) (a0 : Array Value) (hw : ∀ d ∈ tables_1, d.before a0 Z = true) (ws : List Jvm.Cond) (xa : Addr) (h0 : Heap) (n0 : Nat) (O0 : Old Z n0 h0) :
    MetFree l (⟨"java/util/AbstractCollection", "<init>", "()V"⟩ : MethodName) (head1 (Jvm.Cond.code (⟨"java/util/AbstractCollection", "<init>", "()V"⟩ : MethodName) jdk_22_method_1_code 1 none :: ws) ({ frames := 1, cells := 0, slots := 0, locals := 12 } : Room)) (fun as_ U_ => as_ = #[(.ref xa)] ∧ Z.Warmed39 U_.vm ∧ U_.heap = h0) (fun _ _ _ _ _ => True) (fun _ U_ o_ U2_ => ∃ v_ L_, o_ = .returned v_ ∧ Q_own_acInit Z xa h0 n0 v_ U2_.heap L_ ∧ FrameEnd U_ o_ U2_ L_ ({ frames := 1, cells := 0, slots := 0, locals := 12 } : Room).cells ({ frames := 1, cells := 0, slots := 0, locals := 12 } : Room).slots) := by
  refine MetFree.of_bodySF (plainFor_of_name own_pn_java_util_AbstractCollection) hisR ?_
  intro p e s m args below meth c s₁ Bd hml0 hP hK
  obtain ⟨rfl, hZ, hh⟩ := hP
  have hx := Bd.exec
  have hby := Bd.bytes
  have hml : c.maxLocals = 1 := hml0
  have hown : s.vm.findClass "java/util/AbstractCollection" = some m.cls := findClass_of_methodNamed Bd.named
  have hnm := (name_of_methodNamed Bd.named Bd.method).1
  have hlk : meth.locks = false := Bd.notSynchronized
  have hret := Bd.returns
  have X0 : Stand p l e ({ frames := 1, cells := 0, slots := 0, locals := 12 } : Room) s m #[(.ref xa)] below meth c s₁ [] 0 0 := Stand.of_body Bd
  have e0 : s₁.heap = h0 := by rw [← hh, Bd.state]; rfl
  have N0 := Fr.nil n0
  have z0 : Z.heap.size = n0 := O0.1
  have z1 : n0 ≤ h0.size := z0 ▸ O0.2.1
  show own_Goes p e below (s₁.setTop (entryFrame m #[(.ref xa)] 1)) (own_PostN s (Q_own_acInit Z xa h0 n0) ({ frames := 1, cells := 0, slots := 0, locals := 12 } : Room).cells ({ frames := 1, cells := 0, slots := 0, locals := 12 } : Room).slots)
  refine own_cast (own_ef_own_acInit m xa) ?_
  show own_Goes p e below (s₁.setTop (mkF m 0 #[.val (.ref xa)] [])) _
  refine own_go (fun t_ k_ => XS.aloadN X0.here hx rfl (hb hby own_d20_0) rfl rfl k_) ?_
  show own_Goes p e below (s₁.setTop (mkF m 1 #[.val (.ref xa)] [(.ref xa)])) _
  obtain ⟨T1, X1, e1, st1⟩ := initO X0 hx hZ hown (hw _ (List.mem_of_getElem? (i := 117) rfl)) (hw _ (List.mem_of_getElem? (i := 16) rfl)) (hw _ (List.mem_of_getElem? (i := 17) rfl)) e0 (g := (mkF m 1 #[.val (.ref xa)] [(.ref xa)])) rfl (by rw [hml]; rfl) rfl (hb hby own_d20_1) (by decide) (W := 0) (by show 2 * 0 + _ ≤ _; exact Nat.le_of_eq rfl) (by decide)
  refine own_go st1 ?_
  show own_Goes p e below (T1.setTop (mkF m 4 #[.val (.ref xa)] [])) _
  refine own_endN X1 (v := none) (fun _ => rfl) hlk (by decide) (by decide) ?_ (fun fs hr => X1.returnOut hx hret (hb hby own_d20_4) hr)
  show Q_own_acInit Z xa h0 n0 _ T1.heap _
  rw [e1]
  exact ⟨N0, rfl, rfl⟩
theorem own_d19_0 : decode jdk_47_method_1_code 0 = .ok (.aload_n 0, 1) := by decide +kernel
theorem own_d19_1 : decode jdk_47_method_1_code 1 = .ok (.invokespecial 1, 3) := by decide +kernel
theorem own_pd_4 : parseMethodDescriptor "()V" = some ⟨[], none⟩ := by decide +kernel
abbrev own_m5 : MethodName := ⟨"java/util/AbstractCollection", "<init>", "()V"⟩
theorem own_d19_4 : decode jdk_47_method_1_code 4 = .ok (.return_, 1) := by decide +kernel
theorem own_pn_java_util_ImmutableCollections_AbstractImmutableCollection : plainName "java/util/ImmutableCollections$AbstractImmutableCollection" = true := by first | (simp [plainName, overriddenIn]; done) | decide +kernel
theorem own_ef_own_aicInit (m : MethodId) (xa : Addr) : entryFrame m #[(.ref xa)] 1 = mkF m 0 #[.val (.ref xa)] [] := by first | (simp [entryFrame, mkF, argsToLocals, Value.category]; done) | rfl
def Q_own_aicInit (Z : State) (xa : Addr) (h0 : Heap) (n0 : Nat) (v : Option Value) (h : Heap) (L : List Loc) : Prop := Fr n0 L ∧ h = h0 ∧ v = none
set_option maxRecDepth 65536 in
set_option maxHeartbeats 40000000 in
theorem own_aicInit (l : Launch) (Z : State) (a0 : Array Value) (hw : ∀ d ∈ tables_1, d.before a0 Z = true) (ws : List Jvm.Cond) (xa : Addr) (h0 : Heap) (n0 : Nat) (O0 : Old Z n0 h0) :
    MetFree l (⟨"java/util/ImmutableCollections$AbstractImmutableCollection", "<init>", "()V"⟩ : MethodName) (head1 (Jvm.Cond.code (⟨"java/util/ImmutableCollections$AbstractImmutableCollection", "<init>", "()V"⟩ : MethodName) jdk_47_method_1_code 1 none :: ws) ({ frames := 2, cells := 0, slots := 0, locals := 24 } : Room)) (fun as_ U_ => as_ = #[(.ref xa)] ∧ Z.Warmed39 U_.vm ∧ U_.heap = h0) (fun _ _ _ _ _ => True) (fun _ U_ o_ U2_ => ∃ v_ L_, o_ = .returned v_ ∧ Q_own_aicInit Z xa h0 n0 v_ U2_.heap L_ ∧ FrameEnd U_ o_ U2_ L_ ({ frames := 2, cells := 0, slots := 0, locals := 24 } : Room).cells ({ frames := 2, cells := 0, slots := 0, locals := 24 } : Room).slots) := by
  refine MetFree.of_bodySF (plainFor_of_name own_pn_java_util_ImmutableCollections_AbstractImmutableCollection) hisR ?_
  intro p e s m args below meth c s₁ Bd hml0 hP hK
  obtain ⟨rfl, hZ, hh⟩ := hP
  have hx := Bd.exec
  have hby := Bd.bytes
  have hml : c.maxLocals = 1 := hml0
  have hown : s.vm.findClass "java/util/ImmutableCollections$AbstractImmutableCollection" = some m.cls := findClass_of_methodNamed Bd.named
  have hnm := (name_of_methodNamed Bd.named Bd.method).1
  have hlk : meth.locks = false := Bd.notSynchronized
  have hret := Bd.returns
  have X0 : Stand p l e ({ frames := 2, cells := 0, slots := 0, locals := 24 } : Room) s m #[(.ref xa)] below meth c s₁ [] 0 0 := Stand.of_body Bd
  have e0 : s₁.heap = h0 := by rw [← hh, Bd.state]; rfl
  have N0 := Fr.nil n0
  have z0 : Z.heap.size = n0 := O0.1
  have z1 : n0 ≤ h0.size := z0 ▸ O0.2.1
  show own_Goes p e below (s₁.setTop (entryFrame m #[(.ref xa)] 1)) (own_PostN s (Q_own_aicInit Z xa h0 n0) ({ frames := 2, cells := 0, slots := 0, locals := 24 } : Room).cells ({ frames := 2, cells := 0, slots := 0, locals := 24 } : Room).slots)
  refine own_cast (own_ef_own_aicInit m xa) ?_
  show own_Goes p e below (s₁.setTop (mkF m 0 #[.val (.ref xa)] [])) _
  refine own_go (fun t_ k_ => XS.aloadN X0.here hx rfl (hb hby own_d19_0) rfl rfl k_) ?_
  show own_Goes p e below (s₁.setTop (mkF m 1 #[.val (.ref xa)] [(.ref xa)])) _
  obtain ⟨_, _, ⟨T1, L1, k1, n1⟩, -, X1, ⟨Lc1, hQ1, l1, y1, z1⟩, st1⟩ := X0.specialBack hx (y := own_m5) rfl hown (mvT hZ (hw _ (List.mem_of_getElem? (i := 111) rfl))) (mvT hZ (hw _ (List.mem_of_getElem? (i := 112) rfl))) (mvT hZ (hw _ (List.mem_of_getElem? (i := 116) rfl))) (by decide) (backOf (W := 0) (own_acInit l Z a0 hw [] xa h0 n0 O0) hZ (hw _ (List.mem_of_getElem? (i := 116) rfl)) (hw _ (List.mem_of_getElem? (i := 115) rfl)) (by decide) (by decide)) (g := (mkF m 1 #[.val (.ref xa)] [(.ref xa)])) rfl (by rw [hml]; rfl) (Steps.refl _) (a := xa) (argsL := []) (rest := []) (lenOf own_pd_4 rfl) rfl (by show 2 * 0 + _ ≤ _; exact Nat.le_of_eq rfl) (hb hby own_d19_1) (fun _ _ => ⟨rfl, e0, (by decide : 0 + 0 ≤ _), (by decide : 0 + 0 ≤ _)⟩)
  dsimp only [Pt.U, Pt.locs, Pt.cells, Pt.slots] at X1 l1 y1 z1 st1 hQ1
  subst l1 y1 z1
  obtain ⟨Nc1, e1, rfl⟩ := hQ1
  have N1 := Fr.app N0 Nc1
  refine own_goS st1 ?_
  show own_Goes p e below (T1.setTop (mkF m 4 #[.val (.ref xa)] [])) _
  refine own_endN X1 (v := none) (fun _ => rfl) hlk (by decide) (by decide) ?_ (fun fs hr => X1.returnOut hx hret (hb hby own_d19_4) hr)
  show Q_own_aicInit Z xa h0 n0 _ T1.heap _
  rw [e1]
  exact ⟨N1, rfl, rfl⟩
theorem own_d18_0 : decode jdk_46_method_1_code 0 = .ok (.aload_n 0, 1) := by decide +kernel
theorem own_d18_1 : decode jdk_46_method_1_code 1 = .ok (.invokespecial 1, 3) := by decide +kernel
abbrev own_m6 : MethodName := ⟨"java/util/ImmutableCollections$AbstractImmutableCollection", "<init>", "()V"⟩
theorem own_d18_4 : decode jdk_46_method_1_code 4 = .ok (.return_, 1) := by decide +kernel
theorem own_pn_java_util_ImmutableCollections_AbstractImmutableList : plainName "java/util/ImmutableCollections$AbstractImmutableList" = true := by first | (simp [plainName, overriddenIn]; done) | decide +kernel
theorem own_ef_own_ailInit (m : MethodId) (xa : Addr) : entryFrame m #[(.ref xa)] 1 = mkF m 0 #[.val (.ref xa)] [] := by first | (simp [entryFrame, mkF, argsToLocals, Value.category]; done) | rfl
def Q_own_ailInit (Z : State) (xa : Addr) (h0 : Heap) (n0 : Nat) (v : Option Value) (h : Heap) (L : List Loc) : Prop := Fr n0 L ∧ h = h0 ∧ v = none
set_option maxRecDepth 65536 in
set_option maxHeartbeats 40000000 in
theorem own_ailInit (l : Launch) (Z : State) (a0 : Array Value) (hw : ∀ d ∈ tables_1, d.before a0 Z = true) (ws : List Jvm.Cond) (xa : Addr) (h0 : Heap) (n0 : Nat) (O0 : Old Z n0 h0) :
    MetFree l (⟨"java/util/ImmutableCollections$AbstractImmutableList", "<init>", "()V"⟩ : MethodName) (head1 (Jvm.Cond.code (⟨"java/util/ImmutableCollections$AbstractImmutableList", "<init>", "()V"⟩ : MethodName) jdk_46_method_1_code 1 none :: ws) ({ frames := 3, cells := 0, slots := 0, locals := 36 } : Room)) (fun as_ U_ => as_ = #[(.ref xa)] ∧ Z.Warmed39 U_.vm ∧ U_.heap = h0) (fun _ _ _ _ _ => True) (fun _ U_ o_ U2_ => ∃ v_ L_, o_ = .returned v_ ∧ Q_own_ailInit Z xa h0 n0 v_ U2_.heap L_ ∧ FrameEnd U_ o_ U2_ L_ ({ frames := 3, cells := 0, slots := 0, locals := 36 } : Room).cells ({ frames := 3, cells := 0, slots := 0, locals := 36 } : Room).slots) := by
  refine MetFree.of_bodySF (plainFor_of_name own_pn_java_util_ImmutableCollections_AbstractImmutableList) hisR ?_
  intro p e s m args below meth c s₁ Bd hml0 hP hK
  obtain ⟨rfl, hZ, hh⟩ := hP
  have hx := Bd.exec
  have hby := Bd.bytes
  have hml : c.maxLocals = 1 := hml0
  have hown : s.vm.findClass "java/util/ImmutableCollections$AbstractImmutableList" = some m.cls := findClass_of_methodNamed Bd.named
  have hnm := (name_of_methodNamed Bd.named Bd.method).1
  have hlk : meth.locks = false := Bd.notSynchronized
  have hret := Bd.returns
  have X0 : Stand p l e ({ frames := 3, cells := 0, slots := 0, locals := 36 } : Room) s m #[(.ref xa)] below meth c s₁ [] 0 0 := Stand.of_body Bd
  have e0 : s₁.heap = h0 := by rw [← hh, Bd.state]; rfl
  have N0 := Fr.nil n0
  have z0 : Z.heap.size = n0 := O0.1
  have z1 : n0 ≤ h0.size := z0 ▸ O0.2.1
  show own_Goes p e below (s₁.setTop (entryFrame m #[(.ref xa)] 1)) (own_PostN s (Q_own_ailInit Z xa h0 n0) ({ frames := 3, cells := 0, slots := 0, locals := 36 } : Room).cells ({ frames := 3, cells := 0, slots := 0, locals := 36 } : Room).slots)
  refine own_cast (own_ef_own_ailInit m xa) ?_
  show own_Goes p e below (s₁.setTop (mkF m 0 #[.val (.ref xa)] [])) _
  refine own_go (fun t_ k_ => XS.aloadN X0.here hx rfl (hb hby own_d18_0) rfl rfl k_) ?_
  show own_Goes p e below (s₁.setTop (mkF m 1 #[.val (.ref xa)] [(.ref xa)])) _
  obtain ⟨_, _, ⟨T1, L1, k1, n1⟩, -, X1, ⟨Lc1, hQ1, l1, y1, z1⟩, st1⟩ := X0.specialBack hx (y := own_m6) rfl hown (mvT hZ (hw _ (List.mem_of_getElem? (i := 105) rfl))) (mvT hZ (hw _ (List.mem_of_getElem? (i := 106) rfl))) (mvT hZ (hw _ (List.mem_of_getElem? (i := 110) rfl))) (by decide) (backOf (W := 0) (own_aicInit l Z a0 hw [] xa h0 n0 O0) hZ (hw _ (List.mem_of_getElem? (i := 110) rfl)) (hw _ (List.mem_of_getElem? (i := 109) rfl)) (by decide) (by decide)) (g := (mkF m 1 #[.val (.ref xa)] [(.ref xa)])) rfl (by rw [hml]; rfl) (Steps.refl _) (a := xa) (argsL := []) (rest := []) (lenOf own_pd_4 rfl) rfl (by show 2 * 0 + _ ≤ _; exact Nat.le_of_eq rfl) (hb hby own_d18_1) (fun _ _ => ⟨rfl, e0, (by decide : 0 + 0 ≤ _), (by decide : 0 + 0 ≤ _)⟩)
  dsimp only [Pt.U, Pt.locs, Pt.cells, Pt.slots] at X1 l1 y1 z1 st1 hQ1
  subst l1 y1 z1
  obtain ⟨Nc1, e1, rfl⟩ := hQ1
  have N1 := Fr.app N0 Nc1
  refine own_goS st1 ?_
  show own_Goes p e below (T1.setTop (mkF m 4 #[.val (.ref xa)] [])) _
  refine own_endN X1 (v := none) (fun _ => rfl) hlk (by decide) (by decide) ?_ (fun fs hr => X1.returnOut hx hret (hb hby own_d18_4) hr)
  show Q_own_ailInit Z xa h0 n0 _ T1.heap _
  rw [e1]
  exact ⟨N1, rfl, rfl⟩
theorem own_d9_0 : decode jdk_40_method_36_code 0 = .ok (.getstatic 90, 3) := by decide +kernel
theorem own_d9_3 : decode jdk_40_method_36_code 3 = .ok (.areturn, 1) := by decide +kernel
theorem own_pn_java_util_List : plainName "java/util/List" = true := by first | (simp [plainName, overriddenIn]; done) | decide +kernel
theorem own_ef_own_lof0 (m : MethodId) : entryFrame m #[] 0 = mkF m 0 #[] [] := by first | (simp [entryFrame, mkF, argsToLocals, Value.category]; done) | rfl
def Q_own_lof0 (Z : State) (gz : Int32) (gwE : Addr) (gwO : Addr) (gwA : Addr) (gk : ClassId) (h0 : Heap) (n0 : Nat) (v : Option Value) (h : Heap) (L : List Loc) : Prop := Fr n0 L ∧ h = h0 ∧ v = some (.ref gwE)
set_option maxRecDepth 65536 in
set_option maxHeartbeats 40000000 in
theorem own_lof0 (l : Launch) (Z : State) (a0 : Array Value) (hw : ∀ d ∈ tables_1, d.before a0 Z = true) (ws : List Jvm.Cond) (h0 : Heap) (n0 : Nat) (O0 : Old Z n0 h0) (gz : Int32) (gwE : Addr) (gwO : Addr) (gwA : Addr) (gk : ClassId) (G : GG Z gz gwE gwO gwA gk) :
    MetFree l (⟨"java/util/List", "of", "()Ljava/util/List;"⟩ : MethodName) (head1 (Jvm.Cond.code (⟨"java/util/List", "of", "()Ljava/util/List;"⟩ : MethodName) jdk_40_method_36_code 0 (some (.object "java/util/List")) :: ws) ({ frames := 0, cells := 0, slots := 0, locals := 0 } : Room)) (fun as_ U_ => as_ = #[] ∧ Z.Warmed39 U_.vm ∧ U_.heap = h0) (fun _ _ _ _ _ => True) (fun _ U_ o_ U2_ => ∃ v_ L_, o_ = .returned v_ ∧ Q_own_lof0 Z gz gwE gwO gwA gk h0 n0 v_ U2_.heap L_ ∧ FrameEnd U_ o_ U2_ L_ ({ frames := 0, cells := 0, slots := 0, locals := 0 } : Room).cells ({ frames := 0, cells := 0, slots := 0, locals := 0 } : Room).slots) := by
  refine MetFree.of_bodySF (plainFor_of_name own_pn_java_util_List) hisR ?_
  intro p e s m args below meth c s₁ Bd hml0 hP hK
  obtain ⟨rfl, hZ, hh⟩ := hP
  have hx := Bd.exec
  have hby := Bd.bytes
  have hml : c.maxLocals = 0 := hml0
  have hown : s.vm.findClass "java/util/List" = some m.cls := findClass_of_methodNamed Bd.named
  have hnm := (name_of_methodNamed Bd.named Bd.method).1
  have hlk : meth.locks = false := Bd.notSynchronized
  have hret := Bd.returns
  have X0 : Stand p l e ({ frames := 0, cells := 0, slots := 0, locals := 0 } : Room) s m #[] below meth c s₁ [] 0 0 := Stand.of_body Bd
  have e0 : s₁.heap = h0 := by rw [← hh, Bd.state]; rfl
  have N0 := Fr.nil n0
  have z0 : Z.heap.size = n0 := O0.1
  have z1 : n0 ≤ h0.size := z0 ▸ O0.2.1
  show own_Goes p e below (s₁.setTop (entryFrame m #[] 0)) (own_PostN s (Q_own_lof0 Z gz gwE gwO gwA gk h0 n0) ({ frames := 0, cells := 0, slots := 0, locals := 0 } : Room).cells ({ frames := 0, cells := 0, slots := 0, locals := 0 } : Room).slots)
  refine own_cast (own_ef_own_lof0 m) ?_
  show own_Goes p e below (s₁.setTop (mkF m 0 #[] [])) _
  obtain ⟨G0, G1, G2, G3, G4, G5, G6, G7⟩ := id G
  have ltG3 : @LT.lt Nat _ gwE Z.heap.size := G3.lt
  have ltG5 : @LT.lt Nat _ gwO Z.heap.size := G5.lt
  have ltG7 : @LT.lt Nat _ gwA Z.heap.size := G7.lt
  have q1 := G2.ext O0.2
  obtain ⟨T2, X2, e2, st2⟩ := getS2 X0 hx hZ hown (host := "") (Or.inl (hw _ (List.mem_of_getElem? (i := 45) rfl))) Via.refl e0 q1 (g := (mkF m 0 #[] [])) rfl (hb hby own_d9_0)
  refine own_go st2 ?_
  show own_Goes p e below (T2.setTop (mkF m 3 #[] [(.ref gwE)])) _
  refine own_endN X2 (v := (some (.ref gwE))) (fun h => by rw [hret] at h; cases h) hlk (by decide) (by decide) ?_ (fun fs hr => retOut X2 hx hret rfl (Or.inr (Or.inr (Or.inr (Or.inr ⟨rfl, rfl, rfl⟩)))) (hb hby own_d9_3) hr)
  show Q_own_lof0 Z gz gwE gwO gwA gk h0 n0 _ T2.heap _
  rw [e2]
  exact ⟨N0, rfl, rfl⟩
theorem own_d26_0 : decode jdk_44_method_1_code 0 = .ok (.aload_n 0, 1) := by decide +kernel
theorem own_d26_1 : decode jdk_44_method_1_code 1 = .ok (.invokespecial 1, 3) := by decide +kernel
abbrev own_m7 : MethodName := ⟨"java/util/ImmutableCollections$AbstractImmutableList", "<init>", "()V"⟩
theorem own_d26_4 : decode jdk_44_method_1_code 4 = .ok (.aload_n 0, 1) := by decide +kernel
theorem own_d26_5 : decode jdk_44_method_1_code 5 = .ok (.aload_n 1, 1) := by decide +kernel
theorem own_d26_6 : decode jdk_44_method_1_code 6 = .ok (.invokestatic 7, 3) := by decide +kernel
theorem own_pd_8 : parseMethodDescriptor "(Ljava/lang/Object;)Ljava/lang/Object;" = some ⟨[(.object "java/lang/Object")], some (.object "java/lang/Object")⟩ := by decide +kernel
abbrev own_m9 : MethodName := ⟨"java/util/Objects", "requireNonNull", "(Ljava/lang/Object;)Ljava/lang/Object;"⟩
theorem own_d26_9 : decode jdk_44_method_1_code 9 = .ok (.putfield 13, 3) := by decide +kernel
theorem own_d26_12 : decode jdk_44_method_1_code 12 = .ok (.aload_n 0, 1) := by decide +kernel
theorem own_d26_13 : decode jdk_44_method_1_code 13 = .ok (.getstatic 19, 3) := by decide +kernel
theorem own_d26_16 : decode jdk_44_method_1_code 16 = .ok (.putfield 24, 3) := by decide +kernel
theorem own_d26_19 : decode jdk_44_method_1_code 19 = .ok (.return_, 1) := by decide +kernel
theorem own_pn_java_util_ImmutableCollections_List12 : plainName "java/util/ImmutableCollections$List12" = true := by first | (simp [plainName, overriddenIn]; done) | decide +kernel
theorem own_ef_own_l12a (m : MethodId) (xa : Addr) (x0 : Addr) : entryFrame m #[(.ref xa), (.ref x0)] 2 = mkF m 0 #[.val (.ref xa), .val (.ref x0)] [] := by first | (simp [entryFrame, mkF, argsToLocals, Value.category]; done) | rfl
def Q_own_l12a (Z : State) (xa : Addr) (x0 : Addr) (gz : Int32) (gwE : Addr) (gwO : Addr) (gwA : Addr) (gk : ClassId) (h0 : Heap) (n0 : Nat) (v : Option Value) (h : Heap) (L : List Loc) : Prop := Fr n0 L ∧ Keep h0 h [xa] ∧ v = none ∧ Fld Z h xa "java/util/ImmutableCollections$List12" "e0" "Ljava/lang/Object;" (.ref x0) ∧ Fld Z h xa "java/util/ImmutableCollections$List12" "e1" "Ljava/lang/Object;" (.ref gwO)
set_option maxRecDepth 65536 in
set_option maxHeartbeats 40000000 in
theorem own_l12a (l : Launch) (Z : State) (a0 : Array Value) (hw : ∀ d ∈ tables_1, d.before a0 Z = true) (ws : List Jvm.Cond) (xa : Addr) (x0 : Addr) (h0 : Heap) (n0 : Nat) (O0 : Old Z n0 h0) (gz : Int32) (gwE : Addr) (gwO : Addr) (gwA : Addr) (gk : ClassId) (G : GG Z gz gwE gwO gwA gk) (P0 : Exa Z h0 xa "java/util/ImmutableCollections$List12") (P1 : Fld Z h0 xa "java/util/ImmutableCollections$List12" "e0" "Ljava/lang/Object;" .null) (P2 : Fld Z h0 xa "java/util/ImmutableCollections$List12" "e1" "Ljava/lang/Object;" .null) (P3 : n0 ≤ xa) :
    MetFree l (⟨"java/util/ImmutableCollections$List12", "<init>", "(Ljava/lang/Object;)V"⟩ : MethodName) (head1 (Jvm.Cond.code (⟨"java/util/ImmutableCollections$List12", "<init>", "(Ljava/lang/Object;)V"⟩ : MethodName) jdk_44_method_1_code 2 none :: ws) ({ frames := 4, cells := 0, slots := 0, locals := 48 } : Room)) (fun as_ U_ => as_ = #[(.ref xa), (.ref x0)] ∧ Z.Warmed39 U_.vm ∧ U_.heap = h0) (fun _ _ _ _ _ => True) (fun _ U_ o_ U2_ => ∃ v_ L_, o_ = .returned v_ ∧ Q_own_l12a Z xa x0 gz gwE gwO gwA gk h0 n0 v_ U2_.heap L_ ∧ FrameEnd U_ o_ U2_ L_ ({ frames := 4, cells := 0, slots := 0, locals := 48 } : Room).cells ({ frames := 4, cells := 0, slots := 0, locals := 48 } : Room).slots) := by
  refine MetFree.of_bodySF (plainFor_of_name own_pn_java_util_ImmutableCollections_List12) hisR ?_
  intro p e s m args below meth c s₁ Bd hml0 hP hK
  obtain ⟨rfl, hZ, hh⟩ := hP
  have hx := Bd.exec
  have hby := Bd.bytes
  have hml : c.maxLocals = 2 := hml0
  have hown : s.vm.findClass "java/util/ImmutableCollections$List12" = some m.cls := findClass_of_methodNamed Bd.named
  have hnm := (name_of_methodNamed Bd.named Bd.method).1
  have hlk : meth.locks = false := Bd.notSynchronized
  have hret := Bd.returns
  have X0 : Stand p l e ({ frames := 4, cells := 0, slots := 0, locals := 48 } : Room) s m #[(.ref xa), (.ref x0)] below meth c s₁ [] 0 0 := Stand.of_body Bd
  have e0 : s₁.heap = h0 := by rw [← hh, Bd.state]; rfl
  have N0 := Fr.nil n0
  have z0 : Z.heap.size = n0 := O0.1
  have z1 : n0 ≤ h0.size := z0 ▸ O0.2.1
  have K0 : Keep h0 h0 [xa] := Keep.refl _ _
  show own_Goes p e below (s₁.setTop (entryFrame m #[(.ref xa), (.ref x0)] 2)) (own_PostN s (Q_own_l12a Z xa x0 gz gwE gwO gwA gk h0 n0) ({ frames := 4, cells := 0, slots := 0, locals := 48 } : Room).cells ({ frames := 4, cells := 0, slots := 0, locals := 48 } : Room).slots)
  refine own_cast (own_ef_own_l12a m xa x0) ?_
  show own_Goes p e below (s₁.setTop (mkF m 0 #[.val (.ref xa), .val (.ref x0)] [])) _
  obtain ⟨G0, G1, G2, G3, G4, G5, G6, G7⟩ := id G
  have ltG3 : @LT.lt Nat _ gwE Z.heap.size := G3.lt
  have ltG5 : @LT.lt Nat _ gwO Z.heap.size := G5.lt
  have ltG7 : @LT.lt Nat _ gwA Z.heap.size := G7.lt
  have ltP0 : @LT.lt Nat _ xa h0.size := P0.lt
  refine own_go (fun t_ k_ => XS.aloadN X0.here hx rfl (hb hby own_d26_0) rfl rfl k_) ?_
  show own_Goes p e below (s₁.setTop (mkF m 1 #[.val (.ref xa), .val (.ref x0)] [(.ref xa)])) _
  obtain ⟨_, _, ⟨T1, L1, k1, n1⟩, -, X1, ⟨Lc1, hQ1, l1, y1, z1⟩, st1⟩ := X0.specialBack hx (y := own_m7) rfl hown (mvT hZ (hw _ (List.mem_of_getElem? (i := 140) rfl))) (mvT hZ (hw _ (List.mem_of_getElem? (i := 100) rfl))) (mvT hZ (hw _ (List.mem_of_getElem? (i := 104) rfl))) (by decide) (backOf (W := 0) (own_ailInit l Z a0 hw [] xa h0 n0 O0) hZ (hw _ (List.mem_of_getElem? (i := 104) rfl)) (hw _ (List.mem_of_getElem? (i := 103) rfl)) (by decide) (by decide)) (g := (mkF m 1 #[.val (.ref xa), .val (.ref x0)] [(.ref xa)])) rfl (by rw [hml]; rfl) (Steps.refl _) (a := xa) (argsL := []) (rest := []) (lenOf own_pd_4 rfl) rfl (by show 2 * 0 + _ ≤ _; exact Nat.le_of_eq rfl) (hb hby own_d26_1) (fun _ _ => ⟨rfl, e0, (by decide : 0 + 0 ≤ _), (by decide : 0 + 0 ≤ _)⟩)
  dsimp only [Pt.U, Pt.locs, Pt.cells, Pt.slots] at X1 l1 y1 z1 st1 hQ1
  subst l1 y1 z1
  obtain ⟨Nc1, e1, rfl⟩ := hQ1
  have N1 := Fr.app N0 Nc1
  refine own_goS st1 ?_
  show own_Goes p e below (T1.setTop (mkF m 4 #[.val (.ref xa), .val (.ref x0)] [])) _
  refine own_go (fun t_ k_ => XS.aloadN X1.here hx rfl (hb hby own_d26_4) rfl rfl k_) ?_
  show own_Goes p e below (T1.setTop (mkF m 5 #[.val (.ref xa), .val (.ref x0)] [(.ref xa)])) _
  refine own_go (fun t_ k_ => XS.aloadN X1.here hx rfl (hb hby own_d26_5) rfl rfl k_) ?_
  show own_Goes p e below (T1.setTop (mkF m 6 #[.val (.ref xa), .val (.ref x0)] [(.ref x0), (.ref xa)])) _
  obtain ⟨_, _, ⟨T2, L2, k2, n2⟩, -, X2, ⟨Lc2, hQ2, l2, y2, z2⟩, st2⟩ := Jvm.LawKit.callS X1 hx (y := own_m9) hown (mvT hZ (hw _ (List.mem_of_getElem? (i := 144) rfl))) (mvT hZ (hw _ (List.mem_of_getElem? (i := 89) rfl))) (mvT hZ (hw _ (List.mem_of_getElem? (i := 90) rfl))) (mvT hZ (hw _ (List.mem_of_getElem? (i := 91) rfl))) (by decide) (backOf (W := 1) (own_rnn1 l Z a0 hw [] x0 h0 n0 O0) hZ (hw _ (List.mem_of_getElem? (i := 91) rfl)) (hw _ (List.mem_of_getElem? (i := 90) rfl)) (by decide) (by decide)) (g := (mkF m 6 #[.val (.ref xa), .val (.ref x0)] [(.ref x0), (.ref xa)])) rfl (by rw [hml]; rfl) (argsL := [(.ref x0)]) (rest := [(.ref xa)]) (lenOf own_pd_8 rfl) rfl (by show 2 * 0 + _ ≤ _; exact Nat.le_of_eq rfl) (hb hby own_d26_6) (fun _ _ => ⟨rfl, e1, (by decide : 0 + 0 ≤ _), (by decide : 0 + 0 ≤ _)⟩)
  dsimp only [Pt.U, Pt.locs, Pt.cells, Pt.slots] at X2 l2 y2 z2 st2 hQ2
  subst l2 y2 z2
  obtain ⟨Nc2, e2, rfl⟩ := hQ2
  have N2 := Fr.app N1 Nc2
  refine own_go st2 ?_
  show own_Goes p e below (T2.setTop (mkF m 9 #[.val (.ref xa), .val (.ref x0)] [(.ref x0), (.ref xa)])) _
  obtain ⟨T3, h3, X3, e3, W3, st3⟩ := putF X2 hx hZ hown (host := "") (Or.inl (hw _ (List.mem_of_getElem? (i := 145) rfl))) Via.refl e2 P1 P0 (Or.inr ⟨(hw _ (List.mem_of_getElem? (i := 146) rfl)), rfl, hnm⟩) (hw _ (List.mem_of_getElem? (i := 134) rfl)) (ty := (.object "java/lang/Object")) (by decide) rfl rfl (g := (mkF m 9 #[.val (.ref xa), .val (.ref x0)] [(.ref x0), (.ref xa)])) rfl rfl (hb hby own_d26_9)
  refine own_go st3 ?_
  have O4 := O0.wr W3 (show n0 ≤ xa by omega)
  have sz5 : h3.size = h0.size := Wr.size W3
  have K6 := K0.wr W3 (Or.inl (List.mem_of_getElem? (i := 0) rfl))
  have N3 := Fr.snoc X3 N2 (show n0 ≤ xa by omega)
  have Fw3 := P1.same W3
  show own_Goes p e below (T3.setTop (mkF m 12 #[.val (.ref xa), .val (.ref x0)] [])) _
  refine own_go (fun t_ k_ => XS.aloadN X3.here hx rfl (hb hby own_d26_12) rfl rfl k_) ?_
  show own_Goes p e below (T3.setTop (mkF m 13 #[.val (.ref xa), .val (.ref x0)] [(.ref xa)])) _
  have q7 := G4.ext O4.2
  obtain ⟨T8, X8, e8, st8⟩ := getS2 X3 hx hZ hown (Or.inr (hw _ (List.mem_of_getElem? (i := 155) rfl))) Via.refl e3 q7 (g := (mkF m 13 #[.val (.ref xa), .val (.ref x0)] [(.ref xa)])) rfl (hb hby own_d26_13)
  refine own_go st8 ?_
  show own_Goes p e below (T8.setTop (mkF m 16 #[.val (.ref xa), .val (.ref x0)] [(.ref gwO), (.ref xa)])) _
  have f9 := (P2.other W3 (Or.inr (slot_ne (Or.inr (hw _ (List.mem_of_getElem? (i := 148) rfl))) (Or.inr (hw _ (List.mem_of_getElem? (i := 146) rfl))) (by decide) (t := (.object "java/lang/Object")) (t' := (.object "java/lang/Object")) (by decide) (by decide))))
  have f10 := (P0.wr W3)
  obtain ⟨T11, h11, X11, e11, W11, st11⟩ := putF X8 hx hZ hown (host := "") (Or.inl (hw _ (List.mem_of_getElem? (i := 147) rfl))) Via.refl e8 f9 f10 (Or.inr ⟨(hw _ (List.mem_of_getElem? (i := 148) rfl)), rfl, hnm⟩) (hw _ (List.mem_of_getElem? (i := 134) rfl)) (ty := (.object "java/lang/Object")) (by decide) rfl rfl (g := (mkF m 16 #[.val (.ref xa), .val (.ref x0)] [(.ref gwO), (.ref xa)])) rfl rfl (hb hby own_d26_16)
  refine own_go st11 ?_
  have O12 := O4.wr W11 (show n0 ≤ xa by omega)
  have sz13 : h11.size = h3.size := Wr.size W11
  have K14 := K6.wr W11 (Or.inl (List.mem_of_getElem? (i := 0) rfl))
  have N11 := Fr.snoc X11 N3 (show n0 ≤ xa by omega)
  have Fw11 := f9.same W11
  show own_Goes p e below (T11.setTop (mkF m 19 #[.val (.ref xa), .val (.ref x0)] [])) _
  refine own_endN X11 (v := none) (fun _ => rfl) hlk (by decide) (by decide) ?_ (fun fs hr => X11.returnOut hx hret (hb hby own_d26_19) hr)
  show Q_own_l12a Z xa x0 gz gwE gwO gwA gk h0 n0 _ T11.heap _
  rw [e11]
  have f15 := (Fw3.other W11 (Or.inr (slot_ne (Or.inr (hw _ (List.mem_of_getElem? (i := 146) rfl))) (Or.inr (hw _ (List.mem_of_getElem? (i := 148) rfl))) (by decide) (t := (.object "java/lang/Object")) (t' := (.object "java/lang/Object")) (by decide) (by decide))))
  exact ⟨N11, K14, rfl, f15, Fw11⟩
theorem own_d23_0 : decode jdk_44_method_2_code 0 = .ok (.aload_n 0, 1) := by decide +kernel
theorem own_d23_1 : decode jdk_44_method_2_code 1 = .ok (.invokespecial 1, 3) := by decide +kernel
theorem own_d23_4 : decode jdk_44_method_2_code 4 = .ok (.aload_n 0, 1) := by decide +kernel
theorem own_d23_5 : decode jdk_44_method_2_code 5 = .ok (.aload_n 1, 1) := by decide +kernel
theorem own_d23_6 : decode jdk_44_method_2_code 6 = .ok (.invokestatic 7, 3) := by decide +kernel
theorem own_d23_9 : decode jdk_44_method_2_code 9 = .ok (.putfield 13, 3) := by decide +kernel
theorem own_d23_12 : decode jdk_44_method_2_code 12 = .ok (.aload_n 0, 1) := by decide +kernel
theorem own_d23_13 : decode jdk_44_method_2_code 13 = .ok (.aload_n 2, 1) := by decide +kernel
theorem own_d23_14 : decode jdk_44_method_2_code 14 = .ok (.invokestatic 7, 3) := by decide +kernel
theorem own_d23_17 : decode jdk_44_method_2_code 17 = .ok (.putfield 24, 3) := by decide +kernel
theorem own_d23_20 : decode jdk_44_method_2_code 20 = .ok (.return_, 1) := by decide +kernel
theorem own_ef_own_l12b (m : MethodId) (xa : Addr) (x0 : Addr) (x1 : Addr) : entryFrame m #[(.ref xa), (.ref x0), (.ref x1)] 3 = mkF m 0 #[.val (.ref xa), .val (.ref x0), .val (.ref x1)] [] := by first | (simp [entryFrame, mkF, argsToLocals, Value.category]; done) | rfl
def Q_own_l12b (Z : State) (xa : Addr) (x0 : Addr) (x1 : Addr) (h0 : Heap) (n0 : Nat) (v : Option Value) (h : Heap) (L : List Loc) : Prop := Fr n0 L ∧ Keep h0 h [xa] ∧ v = none ∧ Fld Z h xa "java/util/ImmutableCollections$List12" "e0" "Ljava/lang/Object;" (.ref x0) ∧ Fld Z h xa "java/util/ImmutableCollections$List12" "e1" "Ljava/lang/Object;" (.ref x1)
set_option maxRecDepth 65536 in
set_option maxHeartbeats 40000000 in
theorem own_l12b (l : Launch) (Z : State) (a0 : Array Value) (hw : ∀ d ∈ tables_1, d.before a0 Z = true) (ws : List Jvm.Cond) (xa : Addr) (x0 : Addr) (x1 : Addr) (h0 : Heap) (n0 : Nat) (O0 : Old Z n0 h0) (P0 : Exa Z h0 xa "java/util/ImmutableCollections$List12") (P1 : Fld Z h0 xa "java/util/ImmutableCollections$List12" "e0" "Ljava/lang/Object;" .null) (P2 : Fld Z h0 xa "java/util/ImmutableCollections$List12" "e1" "Ljava/lang/Object;" .null) (P3 : n0 ≤ xa) :
    MetFree l (⟨"java/util/ImmutableCollections$List12", "<init>", "(Ljava/lang/Object;Ljava/lang/Object;)V"⟩ : MethodName) (head1 (Jvm.Cond.code (⟨"java/util/ImmutableCollections$List12", "<init>", "(Ljava/lang/Object;Ljava/lang/Object;)V"⟩ : MethodName) jdk_44_method_2_code 3 none :: ws) ({ frames := 4, cells := 0, slots := 0, locals := 48 } : Room)) (fun as_ U_ => as_ = #[(.ref xa), (.ref x0), (.ref x1)] ∧ Z.Warmed39 U_.vm ∧ U_.heap = h0) (fun _ _ _ _ _ => True) (fun _ U_ o_ U2_ => ∃ v_ L_, o_ = .returned v_ ∧ Q_own_l12b Z xa x0 x1 h0 n0 v_ U2_.heap L_ ∧ FrameEnd U_ o_ U2_ L_ ({ frames := 4, cells := 0, slots := 0, locals := 48 } : Room).cells ({ frames := 4, cells := 0, slots := 0, locals := 48 } : Room).slots) := by
  refine MetFree.of_bodySF (plainFor_of_name own_pn_java_util_ImmutableCollections_List12) hisR ?_
  intro p e s m args below meth c s₁ Bd hml0 hP hK
  obtain ⟨rfl, hZ, hh⟩ := hP
  have hx := Bd.exec
  have hby := Bd.bytes
  have hml : c.maxLocals = 3 := hml0
  have hown : s.vm.findClass "java/util/ImmutableCollections$List12" = some m.cls := findClass_of_methodNamed Bd.named
  have hnm := (name_of_methodNamed Bd.named Bd.method).1
  have hlk : meth.locks = false := Bd.notSynchronized
  have hret := Bd.returns
  have X0 : Stand p l e ({ frames := 4, cells := 0, slots := 0, locals := 48 } : Room) s m #[(.ref xa), (.ref x0), (.ref x1)] below meth c s₁ [] 0 0 := Stand.of_body Bd
  have e0 : s₁.heap = h0 := by rw [← hh, Bd.state]; rfl
  have N0 := Fr.nil n0
  have z0 : Z.heap.size = n0 := O0.1
  have z1 : n0 ≤ h0.size := z0 ▸ O0.2.1
  have K0 : Keep h0 h0 [xa] := Keep.refl _ _
  show own_Goes p e below (s₁.setTop (entryFrame m #[(.ref xa), (.ref x0), (.ref x1)] 3)) (own_PostN s (Q_own_l12b Z xa x0 x1 h0 n0) ({ frames := 4, cells := 0, slots := 0, locals := 48 } : Room).cells ({ frames := 4, cells := 0, slots := 0, locals := 48 } : Room).slots)
  refine own_cast (own_ef_own_l12b m xa x0 x1) ?_
  show own_Goes p e below (s₁.setTop (mkF m 0 #[.val (.ref xa), .val (.ref x0), .val (.ref x1)] [])) _
  have ltP0 : @LT.lt Nat _ xa h0.size := P0.lt
  refine own_go (fun t_ k_ => XS.aloadN X0.here hx rfl (hb hby own_d23_0) rfl rfl k_) ?_
  show own_Goes p e below (s₁.setTop (mkF m 1 #[.val (.ref xa), .val (.ref x0), .val (.ref x1)] [(.ref xa)])) _
  obtain ⟨_, _, ⟨T1, L1, k1, n1⟩, -, X1, ⟨Lc1, hQ1, l1, y1, z1⟩, st1⟩ := X0.specialBack hx (y := own_m7) rfl hown (mvT hZ (hw _ (List.mem_of_getElem? (i := 140) rfl))) (mvT hZ (hw _ (List.mem_of_getElem? (i := 100) rfl))) (mvT hZ (hw _ (List.mem_of_getElem? (i := 104) rfl))) (by decide) (backOf (W := 0) (own_ailInit l Z a0 hw [] xa h0 n0 O0) hZ (hw _ (List.mem_of_getElem? (i := 104) rfl)) (hw _ (List.mem_of_getElem? (i := 103) rfl)) (by decide) (by decide)) (g := (mkF m 1 #[.val (.ref xa), .val (.ref x0), .val (.ref x1)] [(.ref xa)])) rfl (by rw [hml]; rfl) (Steps.refl _) (a := xa) (argsL := []) (rest := []) (lenOf own_pd_4 rfl) rfl (by show 2 * 0 + _ ≤ _; exact Nat.le_of_eq rfl) (hb hby own_d23_1) (fun _ _ => ⟨rfl, e0, (by decide : 0 + 0 ≤ _), (by decide : 0 + 0 ≤ _)⟩)
  dsimp only [Pt.U, Pt.locs, Pt.cells, Pt.slots] at X1 l1 y1 z1 st1 hQ1
  subst l1 y1 z1
  obtain ⟨Nc1, e1, rfl⟩ := hQ1
  have N1 := Fr.app N0 Nc1
  refine own_goS st1 ?_
  show own_Goes p e below (T1.setTop (mkF m 4 #[.val (.ref xa), .val (.ref x0), .val (.ref x1)] [])) _
  refine own_go (fun t_ k_ => XS.aloadN X1.here hx rfl (hb hby own_d23_4) rfl rfl k_) ?_
  show own_Goes p e below (T1.setTop (mkF m 5 #[.val (.ref xa), .val (.ref x0), .val (.ref x1)] [(.ref xa)])) _
  refine own_go (fun t_ k_ => XS.aloadN X1.here hx rfl (hb hby own_d23_5) rfl rfl k_) ?_
  show own_Goes p e below (T1.setTop (mkF m 6 #[.val (.ref xa), .val (.ref x0), .val (.ref x1)] [(.ref x0), (.ref xa)])) _
  obtain ⟨_, _, ⟨T2, L2, k2, n2⟩, -, X2, ⟨Lc2, hQ2, l2, y2, z2⟩, st2⟩ := Jvm.LawKit.callS X1 hx (y := own_m9) hown (mvT hZ (hw _ (List.mem_of_getElem? (i := 144) rfl))) (mvT hZ (hw _ (List.mem_of_getElem? (i := 89) rfl))) (mvT hZ (hw _ (List.mem_of_getElem? (i := 90) rfl))) (mvT hZ (hw _ (List.mem_of_getElem? (i := 91) rfl))) (by decide) (backOf (W := 1) (own_rnn1 l Z a0 hw [] x0 h0 n0 O0) hZ (hw _ (List.mem_of_getElem? (i := 91) rfl)) (hw _ (List.mem_of_getElem? (i := 90) rfl)) (by decide) (by decide)) (g := (mkF m 6 #[.val (.ref xa), .val (.ref x0), .val (.ref x1)] [(.ref x0), (.ref xa)])) rfl (by rw [hml]; rfl) (argsL := [(.ref x0)]) (rest := [(.ref xa)]) (lenOf own_pd_8 rfl) rfl (by show 2 * 0 + _ ≤ _; exact Nat.le_of_eq rfl) (hb hby own_d23_6) (fun _ _ => ⟨rfl, e1, (by decide : 0 + 0 ≤ _), (by decide : 0 + 0 ≤ _)⟩)
  dsimp only [Pt.U, Pt.locs, Pt.cells, Pt.slots] at X2 l2 y2 z2 st2 hQ2
  subst l2 y2 z2
  obtain ⟨Nc2, e2, rfl⟩ := hQ2
  have N2 := Fr.app N1 Nc2
  refine own_go st2 ?_
  show own_Goes p e below (T2.setTop (mkF m 9 #[.val (.ref xa), .val (.ref x0), .val (.ref x1)] [(.ref x0), (.ref xa)])) _
  obtain ⟨T3, h3, X3, e3, W3, st3⟩ := putF X2 hx hZ hown (host := "") (Or.inl (hw _ (List.mem_of_getElem? (i := 145) rfl))) Via.refl e2 P1 P0 (Or.inr ⟨(hw _ (List.mem_of_getElem? (i := 146) rfl)), rfl, hnm⟩) (hw _ (List.mem_of_getElem? (i := 134) rfl)) (ty := (.object "java/lang/Object")) (by decide) rfl rfl (g := (mkF m 9 #[.val (.ref xa), .val (.ref x0), .val (.ref x1)] [(.ref x0), (.ref xa)])) rfl rfl (hb hby own_d23_9)
  refine own_go st3 ?_
  have O4 := O0.wr W3 (show n0 ≤ xa by omega)
  have sz5 : h3.size = h0.size := Wr.size W3
  have K6 := K0.wr W3 (Or.inl (List.mem_of_getElem? (i := 0) rfl))
  have N3 := Fr.snoc X3 N2 (show n0 ≤ xa by omega)
  have Fw3 := P1.same W3
  show own_Goes p e below (T3.setTop (mkF m 12 #[.val (.ref xa), .val (.ref x0), .val (.ref x1)] [])) _
  refine own_go (fun t_ k_ => XS.aloadN X3.here hx rfl (hb hby own_d23_12) rfl rfl k_) ?_
  show own_Goes p e below (T3.setTop (mkF m 13 #[.val (.ref xa), .val (.ref x0), .val (.ref x1)] [(.ref xa)])) _
  refine own_go (fun t_ k_ => XS.aloadN X3.here hx rfl (hb hby own_d23_13) rfl rfl k_) ?_
  show own_Goes p e below (T3.setTop (mkF m 14 #[.val (.ref xa), .val (.ref x0), .val (.ref x1)] [(.ref x1), (.ref xa)])) _
  obtain ⟨_, _, ⟨T7, L7, k7, n7⟩, -, X7, ⟨Lc7, hQ7, l7, y7, z7⟩, st7⟩ := Jvm.LawKit.callS X3 hx (y := own_m9) hown (mvT hZ (hw _ (List.mem_of_getElem? (i := 144) rfl))) (mvT hZ (hw _ (List.mem_of_getElem? (i := 89) rfl))) (mvT hZ (hw _ (List.mem_of_getElem? (i := 90) rfl))) (mvT hZ (hw _ (List.mem_of_getElem? (i := 91) rfl))) (by decide) (backOf (W := 1) (own_rnn1 l Z a0 hw [] x1 h3 n0 O4) hZ (hw _ (List.mem_of_getElem? (i := 91) rfl)) (hw _ (List.mem_of_getElem? (i := 90) rfl)) (by decide) (by decide)) (g := (mkF m 14 #[.val (.ref xa), .val (.ref x0), .val (.ref x1)] [(.ref x1), (.ref xa)])) rfl (by rw [hml]; rfl) (argsL := [(.ref x1)]) (rest := [(.ref xa)]) (lenOf own_pd_8 rfl) rfl (by show 2 * 0 + _ ≤ _; exact Nat.le_of_eq rfl) (hb hby own_d23_14) (fun _ _ => ⟨rfl, e3, (by decide : 0 + 0 ≤ _), (by decide : 0 + 0 ≤ _)⟩)
  dsimp only [Pt.U, Pt.locs, Pt.cells, Pt.slots] at X7 l7 y7 z7 st7 hQ7
  subst l7 y7 z7
  obtain ⟨Nc7, e7, rfl⟩ := hQ7
  have N7 := Fr.app N3 Nc7
  refine own_go st7 ?_
  show own_Goes p e below (T7.setTop (mkF m 17 #[.val (.ref xa), .val (.ref x0), .val (.ref x1)] [(.ref x1), (.ref xa)])) _
  have f8 := (P2.other W3 (Or.inr (slot_ne (Or.inr (hw _ (List.mem_of_getElem? (i := 148) rfl))) (Or.inr (hw _ (List.mem_of_getElem? (i := 146) rfl))) (by decide) (t := (.object "java/lang/Object")) (t' := (.object "java/lang/Object")) (by decide) (by decide))))
  have f9 := (P0.wr W3)
  obtain ⟨T10, h10, X10, e10, W10, st10⟩ := putF X7 hx hZ hown (host := "") (Or.inl (hw _ (List.mem_of_getElem? (i := 147) rfl))) Via.refl e7 f8 f9 (Or.inr ⟨(hw _ (List.mem_of_getElem? (i := 148) rfl)), rfl, hnm⟩) (hw _ (List.mem_of_getElem? (i := 134) rfl)) (ty := (.object "java/lang/Object")) (by decide) rfl rfl (g := (mkF m 17 #[.val (.ref xa), .val (.ref x0), .val (.ref x1)] [(.ref x1), (.ref xa)])) rfl rfl (hb hby own_d23_17)
  refine own_go st10 ?_
  have O11 := O4.wr W10 (show n0 ≤ xa by omega)
  have sz12 : h10.size = h3.size := Wr.size W10
  have K13 := K6.wr W10 (Or.inl (List.mem_of_getElem? (i := 0) rfl))
  have N10 := Fr.snoc X10 N7 (show n0 ≤ xa by omega)
  have Fw10 := f8.same W10
  show own_Goes p e below (T10.setTop (mkF m 20 #[.val (.ref xa), .val (.ref x0), .val (.ref x1)] [])) _
  refine own_endN X10 (v := none) (fun _ => rfl) hlk (by decide) (by decide) ?_ (fun fs hr => X10.returnOut hx hret (hb hby own_d23_20) hr)
  show Q_own_l12b Z xa x0 x1 h0 n0 _ T10.heap _
  rw [e10]
  have f14 := (Fw3.other W10 (Or.inr (slot_ne (Or.inr (hw _ (List.mem_of_getElem? (i := 146) rfl))) (Or.inr (hw _ (List.mem_of_getElem? (i := 148) rfl))) (by decide) (t := (.object "java/lang/Object")) (t' := (.object "java/lang/Object")) (by decide) (by decide))))
  exact ⟨N10, K13, rfl, f14, Fw10⟩
theorem own_d17_0 : decode jdk_45_method_1_code 0 = .ok (.aload_n 0, 1) := by decide +kernel
theorem own_d17_1 : decode jdk_45_method_1_code 1 = .ok (.invokespecial 1, 3) := by decide +kernel
theorem own_d17_4 : decode jdk_45_method_1_code 4 = .ok (.aload_n 0, 1) := by decide +kernel
theorem own_d17_5 : decode jdk_45_method_1_code 5 = .ok (.aload_n 1, 1) := by decide +kernel
theorem own_d17_6 : decode jdk_45_method_1_code 6 = .ok (.putfield 7, 3) := by decide +kernel
theorem own_d17_9 : decode jdk_45_method_1_code 9 = .ok (.aload_n 0, 1) := by decide +kernel
theorem own_d17_10 : decode jdk_45_method_1_code 10 = .ok (.iload_n 2, 1) := by decide +kernel
theorem own_d17_11 : decode jdk_45_method_1_code 11 = .ok (.putfield 13, 3) := by decide +kernel
theorem own_d17_14 : decode jdk_45_method_1_code 14 = .ok (.return_, 1) := by decide +kernel
theorem own_pn_java_util_ImmutableCollections_ListN : plainName "java/util/ImmutableCollections$ListN" = true := by first | (simp [plainName, overriddenIn]; done) | decide +kernel
theorem own_ef_own_lnInit (m : MethodId) (xa : Addr) (xe : Addr) : entryFrame m #[(.ref xa), (.ref xe), (.int (0 : Int32))] 3 = mkF m 0 #[.val (.ref xa), .val (.ref xe), .val (.int (0 : Int32))] [] := by first | (simp [entryFrame, mkF, argsToLocals, Value.category]; done) | rfl
def Q_own_lnInit (Z : State) (xa : Addr) (xe : Addr) (h0 : Heap) (n0 : Nat) (v : Option Value) (h : Heap) (L : List Loc) : Prop := Fr n0 L ∧ Keep h0 h [xa] ∧ v = none ∧ Fld Z h xa "java/util/ImmutableCollections$ListN" "elements" "[Ljava/lang/Object;" (.ref xe)
set_option maxRecDepth 65536 in
set_option maxHeartbeats 40000000 in
theorem own_lnInit (l : Launch) (Z : State) (a0 : Array Value) (hw : ∀ d ∈ tables_1, d.before a0 Z = true) (ws : List Jvm.Cond) (xa : Addr) (xe : Addr) (h0 : Heap) (n0 : Nat) (O0 : Old Z n0 h0) (P0 : Exa Z h0 xa "java/util/ImmutableCollections$ListN") (P1 : Fld Z h0 xa "java/util/ImmutableCollections$ListN" "elements" "[Ljava/lang/Object;" .null) (P2 : Fld Z h0 xa "java/util/ImmutableCollections$ListN" "allowNulls" "Z" (.int (0 : Int32))) (P3 : n0 ≤ xa) :
    MetFree l (⟨"java/util/ImmutableCollections$ListN", "<init>", "([Ljava/lang/Object;Z)V"⟩ : MethodName) (head1 (Jvm.Cond.code (⟨"java/util/ImmutableCollections$ListN", "<init>", "([Ljava/lang/Object;Z)V"⟩ : MethodName) jdk_45_method_1_code 3 none :: ws) ({ frames := 4, cells := 0, slots := 0, locals := 48 } : Room)) (fun as_ U_ => as_ = #[(.ref xa), (.ref xe), (.int (0 : Int32))] ∧ Z.Warmed39 U_.vm ∧ U_.heap = h0) (fun _ _ _ _ _ => True) (fun _ U_ o_ U2_ => ∃ v_ L_, o_ = .returned v_ ∧ Q_own_lnInit Z xa xe h0 n0 v_ U2_.heap L_ ∧ FrameEnd U_ o_ U2_ L_ ({ frames := 4, cells := 0, slots := 0, locals := 48 } : Room).cells ({ frames := 4, cells := 0, slots := 0, locals := 48 } : Room).slots) := by
  refine MetFree.of_bodySF (plainFor_of_name own_pn_java_util_ImmutableCollections_ListN) hisR ?_
  intro p e s m args below meth c s₁ Bd hml0 hP hK
  obtain ⟨rfl, hZ, hh⟩ := hP
  have hx := Bd.exec
  have hby := Bd.bytes
  have hml : c.maxLocals = 3 := hml0
  have hown : s.vm.findClass "java/util/ImmutableCollections$ListN" = some m.cls := findClass_of_methodNamed Bd.named
  have hnm := (name_of_methodNamed Bd.named Bd.method).1
  have hlk : meth.locks = false := Bd.notSynchronized
  have hret := Bd.returns
  have X0 : Stand p l e ({ frames := 4, cells := 0, slots := 0, locals := 48 } : Room) s m #[(.ref xa), (.ref xe), (.int (0 : Int32))] below meth c s₁ [] 0 0 := Stand.of_body Bd
  have e0 : s₁.heap = h0 := by rw [← hh, Bd.state]; rfl
  have N0 := Fr.nil n0
  have z0 : Z.heap.size = n0 := O0.1
  have z1 : n0 ≤ h0.size := z0 ▸ O0.2.1
  have K0 : Keep h0 h0 [xa] := Keep.refl _ _
  show own_Goes p e below (s₁.setTop (entryFrame m #[(.ref xa), (.ref xe), (.int (0 : Int32))] 3)) (own_PostN s (Q_own_lnInit Z xa xe h0 n0) ({ frames := 4, cells := 0, slots := 0, locals := 48 } : Room).cells ({ frames := 4, cells := 0, slots := 0, locals := 48 } : Room).slots)
  refine own_cast (own_ef_own_lnInit m xa xe) ?_
  show own_Goes p e below (s₁.setTop (mkF m 0 #[.val (.ref xa), .val (.ref xe), .val (.int (0 : Int32))] [])) _
  have ltP0 : @LT.lt Nat _ xa h0.size := P0.lt
  refine own_go (fun t_ k_ => XS.aloadN X0.here hx rfl (hb hby own_d17_0) rfl rfl k_) ?_
  show own_Goes p e below (s₁.setTop (mkF m 1 #[.val (.ref xa), .val (.ref xe), .val (.int (0 : Int32))] [(.ref xa)])) _
  obtain ⟨_, _, ⟨T1, L1, k1, n1⟩, -, X1, ⟨Lc1, hQ1, l1, y1, z1⟩, st1⟩ := X0.specialBack hx (y := own_m7) rfl hown (mvT hZ (hw _ (List.mem_of_getElem? (i := 99) rfl))) (mvT hZ (hw _ (List.mem_of_getElem? (i := 100) rfl))) (mvT hZ (hw _ (List.mem_of_getElem? (i := 104) rfl))) (by decide) (backOf (W := 0) (own_ailInit l Z a0 hw [] xa h0 n0 O0) hZ (hw _ (List.mem_of_getElem? (i := 104) rfl)) (hw _ (List.mem_of_getElem? (i := 103) rfl)) (by decide) (by decide)) (g := (mkF m 1 #[.val (.ref xa), .val (.ref xe), .val (.int (0 : Int32))] [(.ref xa)])) rfl (by rw [hml]; rfl) (Steps.refl _) (a := xa) (argsL := []) (rest := []) (lenOf own_pd_4 rfl) rfl (by show 2 * 0 + _ ≤ _; exact Nat.le_of_eq rfl) (hb hby own_d17_1) (fun _ _ => ⟨rfl, e0, (by decide : 0 + 0 ≤ _), (by decide : 0 + 0 ≤ _)⟩)
  dsimp only [Pt.U, Pt.locs, Pt.cells, Pt.slots] at X1 l1 y1 z1 st1 hQ1
  subst l1 y1 z1
  obtain ⟨Nc1, e1, rfl⟩ := hQ1
  have N1 := Fr.app N0 Nc1
  refine own_goS st1 ?_
  show own_Goes p e below (T1.setTop (mkF m 4 #[.val (.ref xa), .val (.ref xe), .val (.int (0 : Int32))] [])) _
  refine own_go (fun t_ k_ => XS.aloadN X1.here hx rfl (hb hby own_d17_4) rfl rfl k_) ?_
  show own_Goes p e below (T1.setTop (mkF m 5 #[.val (.ref xa), .val (.ref xe), .val (.int (0 : Int32))] [(.ref xa)])) _
  refine own_go (fun t_ k_ => XS.aloadN X1.here hx rfl (hb hby own_d17_5) rfl rfl k_) ?_
  show own_Goes p e below (T1.setTop (mkF m 6 #[.val (.ref xa), .val (.ref xe), .val (.int (0 : Int32))] [(.ref xe), (.ref xa)])) _
  obtain ⟨T2, h2, X2, e2, W2, st2⟩ := putF X1 hx hZ hown (host := "") (Or.inl (hw _ (List.mem_of_getElem? (i := 78) rfl))) Via.refl e1 P1 P0 (Or.inr ⟨(hw _ (List.mem_of_getElem? (i := 79) rfl)), rfl, hnm⟩) (hw _ (List.mem_of_getElem? (i := 94) rfl)) (ty := (.array (.object "java/lang/Object"))) (by decide) rfl rfl (g := (mkF m 6 #[.val (.ref xa), .val (.ref xe), .val (.int (0 : Int32))] [(.ref xe), (.ref xa)])) rfl rfl (hb hby own_d17_6)
  refine own_go st2 ?_
  have O3 := O0.wr W2 (show n0 ≤ xa by omega)
  have sz4 : h2.size = h0.size := Wr.size W2
  have K5 := K0.wr W2 (Or.inl (List.mem_of_getElem? (i := 0) rfl))
  have N2 := Fr.snoc X2 N1 (show n0 ≤ xa by omega)
  have Fw2 := P1.same W2
  show own_Goes p e below (T2.setTop (mkF m 9 #[.val (.ref xa), .val (.ref xe), .val (.int (0 : Int32))] [])) _
  refine own_go (fun t_ k_ => XS.aloadN X2.here hx rfl (hb hby own_d17_9) rfl rfl k_) ?_
  show own_Goes p e below (T2.setTop (mkF m 10 #[.val (.ref xa), .val (.ref xe), .val (.int (0 : Int32))] [(.ref xa)])) _
  refine own_go (fun t_ k_ => XS.iloadN X2.here hx rfl (hb hby own_d17_10) rfl k_) ?_
  show own_Goes p e below (T2.setTop (mkF m 11 #[.val (.ref xa), .val (.ref xe), .val (.int (0 : Int32))] [(.int (0 : Int32)), (.ref xa)])) _
  have f6 := (P2.other W2 (Or.inr (slot_ne (Or.inr (hw _ (List.mem_of_getElem? (i := 119) rfl))) (Or.inr (hw _ (List.mem_of_getElem? (i := 79) rfl))) (by decide) (t := .boolean) (t' := (.array (.object "java/lang/Object"))) (by decide) (by decide))))
  have f7 := (P0.wr W2)
  obtain ⟨T8, h8, X8, e8, W8, st8⟩ := putFN X2 hx hZ hown (hw _ (List.mem_of_getElem? (i := 118) rfl)) Via.refl e2 f6 f7 (Or.inr ⟨(hw _ (List.mem_of_getElem? (i := 119) rfl)), rfl, hnm⟩) (hw _ (List.mem_of_getElem? (i := 94) rfl)) (ty := .boolean) (v' := (.int (0 : Int32))) (by decide) rfl rfl (g := (mkF m 11 #[.val (.ref xa), .val (.ref xe), .val (.int (0 : Int32))] [(.int (0 : Int32)), (.ref xa)])) rfl rfl (hb hby own_d17_11)
  refine own_go st8 ?_
  have O9 := O3.wr W8 (show n0 ≤ xa by omega)
  have sz10 : h8.size = h2.size := Wr.size W8
  have K11 := K5.wr W8 (Or.inl (List.mem_of_getElem? (i := 0) rfl))
  have N8 := Fr.snoc X8 N2 (show n0 ≤ xa by omega)
  have Fw8 := f6.same W8
  show own_Goes p e below (T8.setTop (mkF m 14 #[.val (.ref xa), .val (.ref xe), .val (.int (0 : Int32))] [])) _
  refine own_endN X8 (v := none) (fun _ => rfl) hlk (by decide) (by decide) ?_ (fun fs hr => X8.returnOut hx hret (hb hby own_d17_14) hr)
  show Q_own_lnInit Z xa xe h0 n0 _ T8.heap _
  rw [e8]
  have f12 := (Fw2.other W8 (Or.inr (slot_ne (Or.inr (hw _ (List.mem_of_getElem? (i := 79) rfl))) (Or.inr (hw _ (List.mem_of_getElem? (i := 119) rfl))) (by decide) (t := (.array (.object "java/lang/Object"))) (t' := .boolean) (by decide) (by decide))))
  exact ⟨N8, K11, rfl, f12⟩
theorem own_d15_0 : decode jdk_56_method_4_code 0 = .ok (.aload_n 0, 1) := by decide +kernel
theorem own_d15_1 : decode jdk_56_method_4_code 1 = .ok (.arraylength, 1) := by decide +kernel
theorem own_d15_2 : decode jdk_56_method_4_code 2 = .ok (.anewarray 2, 3) := by decide +kernel
theorem own_d15_5 : decode jdk_56_method_4_code 5 = .ok (.astore_n 1, 1) := by decide +kernel
theorem own_d15_6 : decode jdk_56_method_4_code 6 = .ok (.iconst 0, 1) := by decide +kernel
theorem own_d15_7 : decode jdk_56_method_4_code 7 = .ok (.istore_n 2, 1) := by decide +kernel
theorem own_d15_8 : decode jdk_56_method_4_code 8 = .ok (.iload_n 2, 1) := by decide +kernel
theorem own_d15_9 : decode jdk_56_method_4_code 9 = .ok (.aload_n 0, 1) := by decide +kernel
theorem own_d15_10 : decode jdk_56_method_4_code 10 = .ok (.arraylength, 1) := by decide +kernel
theorem own_d15_11 : decode jdk_56_method_4_code 11 = .ok (.if_icmp .ge 18, 3) := by decide +kernel
theorem own_d15_14 : decode jdk_56_method_4_code 14 = .ok (.aload_n 1, 1) := by decide +kernel
theorem own_d15_15 : decode jdk_56_method_4_code 15 = .ok (.iload_n 2, 1) := by decide +kernel
theorem own_d15_16 : decode jdk_56_method_4_code 16 = .ok (.aload_n 0, 1) := by decide +kernel
theorem own_d15_17 : decode jdk_56_method_4_code 17 = .ok (.iload_n 2, 1) := by decide +kernel
theorem own_d15_18 : decode jdk_56_method_4_code 18 = .ok (.aaload, 1) := by decide +kernel
theorem own_d15_19 : decode jdk_56_method_4_code 19 = .ok (.invokestatic 37, 3) := by decide +kernel
theorem own_d15_22 : decode jdk_56_method_4_code 22 = .ok (.aastore, 1) := by decide +kernel
theorem own_d15_23 : decode jdk_56_method_4_code 23 = .ok (.iinc 2 1, 3) := by decide +kernel
theorem own_d15_26 : decode jdk_56_method_4_code 26 = .ok (.goto (-18), 3) := by decide +kernel
theorem own_d15_29 : decode jdk_56_method_4_code 29 = .ok (.new 12, 3) := by decide +kernel
theorem own_d15_32 : decode jdk_56_method_4_code 32 = .ok (.dup, 1) := by decide +kernel
theorem own_d15_33 : decode jdk_56_method_4_code 33 = .ok (.aload_n 1, 1) := by decide +kernel
theorem own_d15_34 : decode jdk_56_method_4_code 34 = .ok (.iconst 0, 1) := by decide +kernel
theorem own_d15_35 : decode jdk_56_method_4_code 35 = .ok (.invokespecial 43, 3) := by decide +kernel
theorem own_pd_10 : parseMethodDescriptor "([Ljava/lang/Object;Z)V" = some ⟨[(.array (.object "java/lang/Object")), .boolean], none⟩ := by decide +kernel
abbrev own_m11 : MethodName := ⟨"java/util/ImmutableCollections$ListN", "<init>", "([Ljava/lang/Object;Z)V"⟩
theorem own_d15_38 : decode jdk_56_method_4_code 38 = .ok (.areturn, 1) := by decide +kernel
theorem own_pn_java_util_ImmutableCollections : plainName "java/util/ImmutableCollections" = true := by first | (simp [plainName, overriddenIn]; done) | decide +kernel
theorem own_ef_own_lfa (m : MethodId) (xc : Addr) : entryFrame m #[(.ref xc)] 3 = mkF m 0 #[.val (.ref xc), .unset, .unset] [] := by first | (simp [entryFrame, mkF, argsToLocals, Value.category]; done) | rfl
def Q_own_lfa (Z : State) (xc : Addr) (xk : ClassId) (x0 : Addr) (x1 : Addr) (x2 : Addr) (h0 : Heap) (n0 : Nat) (v : Option Value) (h : Heap) (L : List Loc) : Prop := Fr n0 L ∧ Keep h0 h [] ∧ ∃ (r : Addr), ∃ (re : Addr), ∃ (rk : ClassId), v = some (.ref r) ∧ Exa Z h r "java/util/ImmutableCollections$ListN" ∧ Fld Z h r "java/util/ImmutableCollections$ListN" "elements" "[Ljava/lang/Object;" (.ref re) ∧ Arv Z h re rk (.object "java/lang/Object") (3 : Int32) [(.ref x0), (.ref x1), (.ref x2)] .null ∧ h0.size ≤ r ∧ h0.size ≤ re
set_option maxRecDepth 65536 in
set_option maxHeartbeats 40000000 in
theorem own_lfa (l : Launch) (Z : State) (a0 : Array Value) (hw : ∀ d ∈ tables_1, d.before a0 Z = true) (ws : List Jvm.Cond) (xc : Addr) (xk : ClassId) (x0 : Addr) (x1 : Addr) (x2 : Addr) (h0 : Heap) (n0 : Nat) (O0 : Old Z n0 h0) (P0 : Arv Z h0 xc xk (.object "java/lang/String") (3 : Int32) [(.ref x0), (.ref x1), (.ref x2)] .null) (P1 : Exa Z h0 x0 "java/lang/String") (P2 : Exa Z h0 x1 "java/lang/String") (P3 : Exa Z h0 x2 "java/lang/String") :
    MetFree l (⟨"java/util/ImmutableCollections", "listFromArray", "([Ljava/lang/Object;)Ljava/util/List;"⟩ : MethodName) (head1 (Jvm.Cond.code (⟨"java/util/ImmutableCollections", "listFromArray", "([Ljava/lang/Object;)Ljava/util/List;"⟩ : MethodName) jdk_56_method_4_code 3 (some (.object "java/util/List")) :: ws) ({ frames := 5, cells := 2, slots := 5, locals := 63 } : Room)) (fun as_ U_ => as_ = #[(.ref xc)] ∧ Z.Warmed39 U_.vm ∧ U_.heap = h0) (fun _ _ _ _ _ => True) (fun _ U_ o_ U2_ => ∃ v_ L_, o_ = .returned v_ ∧ Q_own_lfa Z xc xk x0 x1 x2 h0 n0 v_ U2_.heap L_ ∧ FrameEnd U_ o_ U2_ L_ ({ frames := 5, cells := 2, slots := 5, locals := 63 } : Room).cells ({ frames := 5, cells := 2, slots := 5, locals := 63 } : Room).slots) := by
  refine MetFree.of_bodySF (plainFor_of_name own_pn_java_util_ImmutableCollections) hisR ?_
  intro p e s m args below meth c s₁ Bd hml0 hP hK
  obtain ⟨rfl, hZ, hh⟩ := hP
  have hx := Bd.exec
  have hby := Bd.bytes
  have hml : c.maxLocals = 3 := hml0
  have hown : s.vm.findClass "java/util/ImmutableCollections" = some m.cls := findClass_of_methodNamed Bd.named
  have hnm := (name_of_methodNamed Bd.named Bd.method).1
  have hlk : meth.locks = false := Bd.notSynchronized
  have hret := Bd.returns
  have X0 : Stand p l e ({ frames := 5, cells := 2, slots := 5, locals := 63 } : Room) s m #[(.ref xc)] below meth c s₁ [] 0 0 := Stand.of_body Bd
  have e0 : s₁.heap = h0 := by rw [← hh, Bd.state]; rfl
  have N0 := Fr.nil n0
  have z0 : Z.heap.size = n0 := O0.1
  have z1 : n0 ≤ h0.size := z0 ▸ O0.2.1
  have K0 : Keep h0 h0 [] := Keep.refl _ _
  show own_Goes p e below (s₁.setTop (entryFrame m #[(.ref xc)] 3)) (own_PostN s (Q_own_lfa Z xc xk x0 x1 x2 h0 n0) ({ frames := 5, cells := 2, slots := 5, locals := 63 } : Room).cells ({ frames := 5, cells := 2, slots := 5, locals := 63 } : Room).slots)
  refine own_cast (own_ef_own_lfa m xc) ?_
  show own_Goes p e below (s₁.setTop (mkF m 0 #[.val (.ref xc), .unset, .unset] [])) _
  have ltP0 : @LT.lt Nat _ xc h0.size := P0.lt
  have ltP1 : @LT.lt Nat _ x0 h0.size := P1.lt
  have ltP2 : @LT.lt Nat _ x1 h0.size := P2.lt
  have ltP3 : @LT.lt Nat _ x2 h0.size := P3.lt
  refine own_go (fun t_ k_ => XS.aloadN X0.here hx rfl (hb hby own_d15_0) rfl rfl k_) ?_
  show own_Goes p e below (s₁.setTop (mkF m 1 #[.val (.ref xc), .unset, .unset] [(.ref xc)])) _
  obtain ⟨clu1, Aru1, qu1, Szu1, Ngu1, Hsu1, Gsu1⟩ := id P0
  refine own_go (fun t_ k_ => X0.arraylength hx (by rw [e0]; exact Aru1.1) (State.isArrayOf_alike hZ.alike Aru1.2.1) (g := (mkF m 1 #[.val (.ref xc), .unset, .unset] [(.ref xc)])) rfl rfl (hb hby own_d15_1) _ k_) ?_
  rw [len_of Szu1 Ngu1]
  show own_Goes p e below (s₁.setTop (mkF m 2 #[.val (.ref xc), .unset, .unset] [(.int (3 : Int32))])) _
  obtain ⟨T2, h2, k2, X2, e2, E2, A2, Ov2, st2⟩ := newR X0 hx hZ hown (hw _ (List.mem_of_getElem? (i := 86) rfl)) (hw _ (List.mem_of_getElem? (i := 87) rfl)) e0 (g := (mkF m 2 #[.val (.ref xc), .unset, .unset] [(.int (3 : Int32))])) rfl (hb hby own_d15_2) rfl (by decide) (cap := 3) (by decide) (by decide) (by decide) (by decide)
  obtain ⟨b2, g2⟩ : ∃ z, z = h0.size := ⟨_, rfl⟩
  rw [← g2] at A2 st2
  refine own_go st2 ?_
  have O3 := O0.ext E2
  have sz4 : h0.size ≤ h2.size := E2.1
  have K5 := K0.ext E2
  have l2 : @LT.lt Nat _ b2 h2.size := A2.lt
  have V2 : Arv Z h2 b2 k2 (.object "java/lang/Object") (3 : Int32) [.null, .null, .null] .null := (Arv.new A2 (by decide)).pad (pad_rep [] .null 3)
  show own_Goes p e below (T2.setTop (mkF m 5 #[.val (.ref xc), .unset, .unset] [(.ref b2)])) _
  refine own_go (fun t_ k_ => XS.astoreN X2.here hx rfl (hb hby own_d15_5) rfl rfl (l' := #[.val (.ref xc), .val (.ref b2), .unset]) rfl k_) ?_
  show own_Goes p e below (T2.setTop (mkF m 6 #[.val (.ref xc), .val (.ref b2), .unset] [])) _
  refine own_go (fun t_ k_ => XS.iconst X2.here hx rfl (hb hby own_d15_6) k_) ?_
  show own_Goes p e below (T2.setTop (mkF m 7 #[.val (.ref xc), .val (.ref b2), .unset] [(.int (0 : Int32))])) _
  refine own_go (fun t_ k_ => XS.istoreN X2.here hx rfl (hb hby own_d15_7) rfl (l' := #[.val (.ref xc), .val (.ref b2), .val (.int (0 : Int32))]) rfl k_) ?_
  show own_Goes p e below (T2.setTop (mkF m 8 #[.val (.ref xc), .val (.ref b2), .val (.int (0 : Int32))] [])) _
  refine own_go (fun t_ k_ => XS.iloadN X2.here hx rfl (hb hby own_d15_8) rfl k_) ?_
  show own_Goes p e below (T2.setTop (mkF m 9 #[.val (.ref xc), .val (.ref b2), .val (.int (0 : Int32))] [(.int (0 : Int32))])) _
  refine own_go (fun t_ k_ => XS.aloadN X2.here hx rfl (hb hby own_d15_9) rfl rfl k_) ?_
  show own_Goes p e below (T2.setTop (mkF m 10 #[.val (.ref xc), .val (.ref b2), .val (.int (0 : Int32))] [(.ref xc), (.int (0 : Int32))])) _
  have f6 := (P0.ext E2)
  obtain ⟨clu7, Aru7, qu7, Szu7, Ngu7, Hsu7, Gsu7⟩ := id f6
  refine own_go (fun t_ k_ => X2.arraylength hx (by rw [e2]; exact Aru7.1) (State.isArrayOf_alike hZ.alike Aru7.2.1) (g := (mkF m 10 #[.val (.ref xc), .val (.ref b2), .val (.int (0 : Int32))] [(.ref xc), (.int (0 : Int32))])) rfl rfl (hb hby own_d15_10) _ k_) ?_
  rw [len_of Szu7 Ngu7]
  show own_Goes p e below (T2.setTop (mkF m 11 #[.val (.ref xc), .val (.ref b2), .val (.int (0 : Int32))] [(.int (3 : Int32)), (.int (0 : Int32))])) _
  refine own_go (fun t_ k_ => XS.icmpNo X2.here hx rfl (hb hby own_d15_11) rfl (tlt (show ((0 : Int32) < (3 : Int32)) from by decide)).2.1 k_) ?_
  show own_Goes p e below (T2.setTop (mkF m 14 #[.val (.ref xc), .val (.ref b2), .val (.int (0 : Int32))] [])) _
  refine own_go (fun t_ k_ => XS.aloadN X2.here hx rfl (hb hby own_d15_14) rfl rfl k_) ?_
  show own_Goes p e below (T2.setTop (mkF m 15 #[.val (.ref xc), .val (.ref b2), .val (.int (0 : Int32))] [(.ref b2)])) _
  refine own_go (fun t_ k_ => XS.iloadN X2.here hx rfl (hb hby own_d15_15) rfl k_) ?_
  show own_Goes p e below (T2.setTop (mkF m 16 #[.val (.ref xc), .val (.ref b2), .val (.int (0 : Int32))] [(.int (0 : Int32)), (.ref b2)])) _
  refine own_go (fun t_ k_ => XS.aloadN X2.here hx rfl (hb hby own_d15_16) rfl rfl k_) ?_
  show own_Goes p e below (T2.setTop (mkF m 17 #[.val (.ref xc), .val (.ref b2), .val (.int (0 : Int32))] [(.ref xc), (.int (0 : Int32)), (.ref b2)])) _
  refine own_go (fun t_ k_ => XS.iloadN X2.here hx rfl (hb hby own_d15_17) rfl k_) ?_
  show own_Goes p e below (T2.setTop (mkF m 18 #[.val (.ref xc), .val (.ref b2), .val (.int (0 : Int32))] [(.int (0 : Int32)), (.ref xc), (.int (0 : Int32)), (.ref b2)])) _
  obtain ⟨clu8, Aru8, qu8, Szu8, Ngu8, Hsu8, Gsu8⟩ := id f6
  have inu8 : ¬ ((0 : Int32) < 0 ∨ clu8.slots.size ≤ ((0 : Int32)).toNatClampNeg) := inb_of Szu8 ⟨by decide, by decide⟩
  have atu8 : clu8.slots[((0 : Int32)).toNatClampNeg]? = some (.ref x0) := Hsu8.at inu8 rfl
  refine own_go (fun t_ k_ => X2.aaload hx (j := (0 : Int32)) (v := (.ref x0)) (by rw [e2]; exact Aru8.1) (State.isArrayOf_alike hZ.alike Aru8.2.1) rfl Aru8.2.2 inu8 atu8 (g := (mkF m 18 #[.val (.ref xc), .val (.ref b2), .val (.int (0 : Int32))] [(.int (0 : Int32)), (.ref xc), (.int (0 : Int32)), (.ref b2)])) rfl rfl (hb hby own_d15_18) _ k_) ?_
  show own_Goes p e below (T2.setTop (mkF m 19 #[.val (.ref xc), .val (.ref b2), .val (.int (0 : Int32))] [(.ref x0), (.int (0 : Int32)), (.ref b2)])) _
  obtain ⟨_, _, ⟨T9, L9, k9, n9⟩, -, X9, ⟨Lc9, hQ9, l9, y9, z9⟩, st9⟩ := Jvm.LawKit.callS X2 hx (y := own_m9) hown (mvT hZ (hw _ (List.mem_of_getElem? (i := 88) rfl))) (mvT hZ (hw _ (List.mem_of_getElem? (i := 89) rfl))) (mvT hZ (hw _ (List.mem_of_getElem? (i := 90) rfl))) (mvT hZ (hw _ (List.mem_of_getElem? (i := 91) rfl))) (by decide) (backOf (W := 2) (own_rnn1 l Z a0 hw [] x0 h2 n0 O3) hZ (hw _ (List.mem_of_getElem? (i := 91) rfl)) (hw _ (List.mem_of_getElem? (i := 90) rfl)) (by decide) (by decide)) (g := (mkF m 19 #[.val (.ref xc), .val (.ref b2), .val (.int (0 : Int32))] [(.ref x0), (.int (0 : Int32)), (.ref b2)])) rfl (by rw [hml]; rfl) (argsL := [(.ref x0)]) (rest := [(.int (0 : Int32)), (.ref b2)]) (lenOf own_pd_8 rfl) rfl (by show 2 * 0 + _ ≤ _; exact Nat.le_of_eq rfl) (hb hby own_d15_19) (fun _ _ => ⟨rfl, e2, (by decide : 1 + 0 ≤ _), (by decide : 3 + 0 ≤ _)⟩)
  dsimp only [Pt.U, Pt.locs, Pt.cells, Pt.slots] at X9 l9 y9 z9 st9 hQ9
  subst l9 y9 z9
  obtain ⟨Nc9, e9, rfl⟩ := hQ9
  have N9 := Fr.app N0 Nc9
  refine own_go st9 ?_
  show own_Goes p e below (T9.setTop (mkF m 22 #[.val (.ref xc), .val (.ref b2), .val (.int (0 : Int32))] [(.ref x0), (.int (0 : Int32)), (.ref b2)])) _
  obtain ⟨clu10, Aru10, qu10, Szu10, Ngu10, Hsu10, Gsu10⟩ := id V2
  have inu10 : ¬ ((0 : Int32) < 0 ∨ clu10.slots.size ≤ ((0 : Int32)).toNatClampNeg) := inb_of Szu10 ⟨by decide, by decide⟩
  have f11 := (P1.ext E2)
  obtain ⟨T12, h12, X12, e12, W12, st12⟩ := stR X9 hx hZ e9 Aru10 (j := (0 : Int32)) inu10 rfl (Sto.ofV Aru10 qu10 Ov2 (Ins.of_exa f11 (hw _ (List.mem_of_getElem? (i := 92) rfl)))) (g := (mkF m 22 #[.val (.ref xc), .val (.ref b2), .val (.int (0 : Int32))] [(.ref x0), (.int (0 : Int32)), (.ref b2)])) rfl rfl (hb hby own_d15_22)
  refine own_go st12 ?_
  have V12 := Arv.set Aru10 qu10 Szu10 Ngu10 Hsu10 Gsu10 rfl W12 0 rfl (Nat.le_of_ble_eq_true rfl)
  have O13 := O3.wr W12 (show n0 ≤ b2 by omega)
  have sz14 : h12.size = h2.size := Wr.size W12
  have K15 := K5.wr W12 (Or.inr (show h0.size ≤ b2 by omega))
  have N12 := Fr.snoc X12 N9 (show n0 ≤ b2 by omega)
  have V12 : Arv Z h12 b2 k2 (.object "java/lang/Object") (3 : Int32) [(.ref x0), .null, .null] .null := V12
  show own_Goes p e below (T12.setTop (mkF m 23 #[.val (.ref xc), .val (.ref b2), .val (.int (0 : Int32))] [])) _
  refine own_go (fun t_ k_ => XS.iinc X12.here hx rfl (hb hby own_d15_23) rfl (l' := #[.val (.ref xc), .val (.ref b2), .val (.int ((0 : Int32) + (1 : Int32)))]) rfl k_) ?_
  show own_Goes p e below (T12.setTop (mkF m 26 #[.val (.ref xc), .val (.ref b2), .val (.int ((0 : Int32) + (1 : Int32)))] [])) _
  rw [show ((0 : Int32) + (1 : Int32)) = (1 : Int32) from by decide]
  refine own_go (fun t_ k_ => XS.goto X12.here hx rfl (pc0 := 26) (pc' := 8) rfl (hb hby own_d15_26) (by decide) (by decide) k_) ?_
  show own_Goes p e below (T12.setTop (mkF m 8 #[.val (.ref xc), .val (.ref b2), .val (.int (1 : Int32))] [])) _
  refine own_go (fun t_ k_ => XS.iloadN X12.here hx rfl (hb hby own_d15_8) rfl k_) ?_
  show own_Goes p e below (T12.setTop (mkF m 9 #[.val (.ref xc), .val (.ref b2), .val (.int (1 : Int32))] [(.int (1 : Int32))])) _
  refine own_go (fun t_ k_ => XS.aloadN X12.here hx rfl (hb hby own_d15_9) rfl rfl k_) ?_
  show own_Goes p e below (T12.setTop (mkF m 10 #[.val (.ref xc), .val (.ref b2), .val (.int (1 : Int32))] [(.ref xc), (.int (1 : Int32))])) _
  have f16 := (f6.other W12 (own_ne (a := xc) (b := b2) (by omega)))
  obtain ⟨clu17, Aru17, qu17, Szu17, Ngu17, Hsu17, Gsu17⟩ := id f16
  refine own_go (fun t_ k_ => X12.arraylength hx (by rw [e12]; exact Aru17.1) (State.isArrayOf_alike hZ.alike Aru17.2.1) (g := (mkF m 10 #[.val (.ref xc), .val (.ref b2), .val (.int (1 : Int32))] [(.ref xc), (.int (1 : Int32))])) rfl rfl (hb hby own_d15_10) _ k_) ?_
  rw [len_of Szu17 Ngu17]
  show own_Goes p e below (T12.setTop (mkF m 11 #[.val (.ref xc), .val (.ref b2), .val (.int (1 : Int32))] [(.int (3 : Int32)), (.int (1 : Int32))])) _
  refine own_go (fun t_ k_ => XS.icmpNo X12.here hx rfl (hb hby own_d15_11) rfl (tlt (show ((1 : Int32) < (3 : Int32)) from by decide)).2.1 k_) ?_
  show own_Goes p e below (T12.setTop (mkF m 14 #[.val (.ref xc), .val (.ref b2), .val (.int (1 : Int32))] [])) _
  refine own_go (fun t_ k_ => XS.aloadN X12.here hx rfl (hb hby own_d15_14) rfl rfl k_) ?_
  show own_Goes p e below (T12.setTop (mkF m 15 #[.val (.ref xc), .val (.ref b2), .val (.int (1 : Int32))] [(.ref b2)])) _
  refine own_go (fun t_ k_ => XS.iloadN X12.here hx rfl (hb hby own_d15_15) rfl k_) ?_
  show own_Goes p e below (T12.setTop (mkF m 16 #[.val (.ref xc), .val (.ref b2), .val (.int (1 : Int32))] [(.int (1 : Int32)), (.ref b2)])) _
  refine own_go (fun t_ k_ => XS.aloadN X12.here hx rfl (hb hby own_d15_16) rfl rfl k_) ?_
  show own_Goes p e below (T12.setTop (mkF m 17 #[.val (.ref xc), .val (.ref b2), .val (.int (1 : Int32))] [(.ref xc), (.int (1 : Int32)), (.ref b2)])) _
  refine own_go (fun t_ k_ => XS.iloadN X12.here hx rfl (hb hby own_d15_17) rfl k_) ?_
  show own_Goes p e below (T12.setTop (mkF m 18 #[.val (.ref xc), .val (.ref b2), .val (.int (1 : Int32))] [(.int (1 : Int32)), (.ref xc), (.int (1 : Int32)), (.ref b2)])) _
  obtain ⟨clu18, Aru18, qu18, Szu18, Ngu18, Hsu18, Gsu18⟩ := id f16
  have inu18 : ¬ ((1 : Int32) < 0 ∨ clu18.slots.size ≤ ((1 : Int32)).toNatClampNeg) := inb_of Szu18 ⟨by decide, by decide⟩
  have atu18 : clu18.slots[((1 : Int32)).toNatClampNeg]? = some (.ref x1) := Hsu18.at inu18 rfl
  refine own_go (fun t_ k_ => X12.aaload hx (j := (1 : Int32)) (v := (.ref x1)) (by rw [e12]; exact Aru18.1) (State.isArrayOf_alike hZ.alike Aru18.2.1) rfl Aru18.2.2 inu18 atu18 (g := (mkF m 18 #[.val (.ref xc), .val (.ref b2), .val (.int (1 : Int32))] [(.int (1 : Int32)), (.ref xc), (.int (1 : Int32)), (.ref b2)])) rfl rfl (hb hby own_d15_18) _ k_) ?_
  show own_Goes p e below (T12.setTop (mkF m 19 #[.val (.ref xc), .val (.ref b2), .val (.int (1 : Int32))] [(.ref x1), (.int (1 : Int32)), (.ref b2)])) _
  obtain ⟨_, _, ⟨T19, L19, k19, n19⟩, -, X19, ⟨Lc19, hQ19, l19, y19, z19⟩, st19⟩ := Jvm.LawKit.callS X12 hx (y := own_m9) hown (mvT hZ (hw _ (List.mem_of_getElem? (i := 88) rfl))) (mvT hZ (hw _ (List.mem_of_getElem? (i := 89) rfl))) (mvT hZ (hw _ (List.mem_of_getElem? (i := 90) rfl))) (mvT hZ (hw _ (List.mem_of_getElem? (i := 91) rfl))) (by decide) (backOf (W := 2) (own_rnn1 l Z a0 hw [] x1 h12 n0 O13) hZ (hw _ (List.mem_of_getElem? (i := 91) rfl)) (hw _ (List.mem_of_getElem? (i := 90) rfl)) (by decide) (by decide)) (g := (mkF m 19 #[.val (.ref xc), .val (.ref b2), .val (.int (1 : Int32))] [(.ref x1), (.int (1 : Int32)), (.ref b2)])) rfl (by rw [hml]; rfl) (argsL := [(.ref x1)]) (rest := [(.int (1 : Int32)), (.ref b2)]) (lenOf own_pd_8 rfl) rfl (by show 2 * 0 + _ ≤ _; exact Nat.le_of_eq rfl) (hb hby own_d15_19) (fun _ _ => ⟨rfl, e12, (by decide : 1 + 0 ≤ _), (by decide : 3 + 0 ≤ _)⟩)
  dsimp only [Pt.U, Pt.locs, Pt.cells, Pt.slots] at X19 l19 y19 z19 st19 hQ19
  subst l19 y19 z19
  obtain ⟨Nc19, e19, rfl⟩ := hQ19
  have N19 := Fr.app N12 Nc19
  refine own_go st19 ?_
  show own_Goes p e below (T19.setTop (mkF m 22 #[.val (.ref xc), .val (.ref b2), .val (.int (1 : Int32))] [(.ref x1), (.int (1 : Int32)), (.ref b2)])) _
  obtain ⟨clu20, Aru20, qu20, Szu20, Ngu20, Hsu20, Gsu20⟩ := id V12
  have inu20 : ¬ ((1 : Int32) < 0 ∨ clu20.slots.size ≤ ((1 : Int32)).toNatClampNeg) := inb_of Szu20 ⟨by decide, by decide⟩
  have f21 := ((P2.ext E2).wr W12)
  obtain ⟨T22, h22, X22, e22, W22, st22⟩ := stR X19 hx hZ e19 Aru20 (j := (1 : Int32)) inu20 rfl (Sto.ofV Aru20 qu20 Ov2 (Ins.of_exa f21 (hw _ (List.mem_of_getElem? (i := 92) rfl)))) (g := (mkF m 22 #[.val (.ref xc), .val (.ref b2), .val (.int (1 : Int32))] [(.ref x1), (.int (1 : Int32)), (.ref b2)])) rfl rfl (hb hby own_d15_22)
  refine own_go st22 ?_
  have V22 := Arv.set Aru20 qu20 Szu20 Ngu20 Hsu20 Gsu20 rfl W22 1 rfl (Nat.le_of_ble_eq_true rfl)
  have O23 := O13.wr W22 (show n0 ≤ b2 by omega)
  have sz24 : h22.size = h12.size := Wr.size W22
  have K25 := K15.wr W22 (Or.inr (show h0.size ≤ b2 by omega))
  have N22 := Fr.snoc X22 N19 (show n0 ≤ b2 by omega)
  have V22 : Arv Z h22 b2 k2 (.object "java/lang/Object") (3 : Int32) [(.ref x0), (.ref x1), .null] .null := V22
  show own_Goes p e below (T22.setTop (mkF m 23 #[.val (.ref xc), .val (.ref b2), .val (.int (1 : Int32))] [])) _
  refine own_go (fun t_ k_ => XS.iinc X22.here hx rfl (hb hby own_d15_23) rfl (l' := #[.val (.ref xc), .val (.ref b2), .val (.int ((1 : Int32) + (1 : Int32)))]) rfl k_) ?_
  show own_Goes p e below (T22.setTop (mkF m 26 #[.val (.ref xc), .val (.ref b2), .val (.int ((1 : Int32) + (1 : Int32)))] [])) _
  rw [show ((1 : Int32) + (1 : Int32)) = (2 : Int32) from by decide]
  refine own_go (fun t_ k_ => XS.goto X22.here hx rfl (pc0 := 26) (pc' := 8) rfl (hb hby own_d15_26) (by decide) (by decide) k_) ?_
  show own_Goes p e below (T22.setTop (mkF m 8 #[.val (.ref xc), .val (.ref b2), .val (.int (2 : Int32))] [])) _
  refine own_go (fun t_ k_ => XS.iloadN X22.here hx rfl (hb hby own_d15_8) rfl k_) ?_
  show own_Goes p e below (T22.setTop (mkF m 9 #[.val (.ref xc), .val (.ref b2), .val (.int (2 : Int32))] [(.int (2 : Int32))])) _
  refine own_go (fun t_ k_ => XS.aloadN X22.here hx rfl (hb hby own_d15_9) rfl rfl k_) ?_
  show own_Goes p e below (T22.setTop (mkF m 10 #[.val (.ref xc), .val (.ref b2), .val (.int (2 : Int32))] [(.ref xc), (.int (2 : Int32))])) _
  have f26 := (f16.other W22 (own_ne (a := xc) (b := b2) (by omega)))
  obtain ⟨clu27, Aru27, qu27, Szu27, Ngu27, Hsu27, Gsu27⟩ := id f26
  refine own_go (fun t_ k_ => X22.arraylength hx (by rw [e22]; exact Aru27.1) (State.isArrayOf_alike hZ.alike Aru27.2.1) (g := (mkF m 10 #[.val (.ref xc), .val (.ref b2), .val (.int (2 : Int32))] [(.ref xc), (.int (2 : Int32))])) rfl rfl (hb hby own_d15_10) _ k_) ?_
  rw [len_of Szu27 Ngu27]
  show own_Goes p e below (T22.setTop (mkF m 11 #[.val (.ref xc), .val (.ref b2), .val (.int (2 : Int32))] [(.int (3 : Int32)), (.int (2 : Int32))])) _
  refine own_go (fun t_ k_ => XS.icmpNo X22.here hx rfl (hb hby own_d15_11) rfl (tlt (show ((2 : Int32) < (3 : Int32)) from by decide)).2.1 k_) ?_
  show own_Goes p e below (T22.setTop (mkF m 14 #[.val (.ref xc), .val (.ref b2), .val (.int (2 : Int32))] [])) _
  refine own_go (fun t_ k_ => XS.aloadN X22.here hx rfl (hb hby own_d15_14) rfl rfl k_) ?_
  show own_Goes p e below (T22.setTop (mkF m 15 #[.val (.ref xc), .val (.ref b2), .val (.int (2 : Int32))] [(.ref b2)])) _
  refine own_go (fun t_ k_ => XS.iloadN X22.here hx rfl (hb hby own_d15_15) rfl k_) ?_
  show own_Goes p e below (T22.setTop (mkF m 16 #[.val (.ref xc), .val (.ref b2), .val (.int (2 : Int32))] [(.int (2 : Int32)), (.ref b2)])) _
  refine own_go (fun t_ k_ => XS.aloadN X22.here hx rfl (hb hby own_d15_16) rfl rfl k_) ?_
  show own_Goes p e below (T22.setTop (mkF m 17 #[.val (.ref xc), .val (.ref b2), .val (.int (2 : Int32))] [(.ref xc), (.int (2 : Int32)), (.ref b2)])) _
  refine own_go (fun t_ k_ => XS.iloadN X22.here hx rfl (hb hby own_d15_17) rfl k_) ?_
  show own_Goes p e below (T22.setTop (mkF m 18 #[.val (.ref xc), .val (.ref b2), .val (.int (2 : Int32))] [(.int (2 : Int32)), (.ref xc), (.int (2 : Int32)), (.ref b2)])) _
  obtain ⟨clu28, Aru28, qu28, Szu28, Ngu28, Hsu28, Gsu28⟩ := id f26
  have inu28 : ¬ ((2 : Int32) < 0 ∨ clu28.slots.size ≤ ((2 : Int32)).toNatClampNeg) := inb_of Szu28 ⟨by decide, by decide⟩
  have atu28 : clu28.slots[((2 : Int32)).toNatClampNeg]? = some (.ref x2) := Hsu28.at inu28 rfl
  refine own_go (fun t_ k_ => X22.aaload hx (j := (2 : Int32)) (v := (.ref x2)) (by rw [e22]; exact Aru28.1) (State.isArrayOf_alike hZ.alike Aru28.2.1) rfl Aru28.2.2 inu28 atu28 (g := (mkF m 18 #[.val (.ref xc), .val (.ref b2), .val (.int (2 : Int32))] [(.int (2 : Int32)), (.ref xc), (.int (2 : Int32)), (.ref b2)])) rfl rfl (hb hby own_d15_18) _ k_) ?_
  show own_Goes p e below (T22.setTop (mkF m 19 #[.val (.ref xc), .val (.ref b2), .val (.int (2 : Int32))] [(.ref x2), (.int (2 : Int32)), (.ref b2)])) _
  obtain ⟨_, _, ⟨T29, L29, k29, n29⟩, -, X29, ⟨Lc29, hQ29, l29, y29, z29⟩, st29⟩ := Jvm.LawKit.callS X22 hx (y := own_m9) hown (mvT hZ (hw _ (List.mem_of_getElem? (i := 88) rfl))) (mvT hZ (hw _ (List.mem_of_getElem? (i := 89) rfl))) (mvT hZ (hw _ (List.mem_of_getElem? (i := 90) rfl))) (mvT hZ (hw _ (List.mem_of_getElem? (i := 91) rfl))) (by decide) (backOf (W := 2) (own_rnn1 l Z a0 hw [] x2 h22 n0 O23) hZ (hw _ (List.mem_of_getElem? (i := 91) rfl)) (hw _ (List.mem_of_getElem? (i := 90) rfl)) (by decide) (by decide)) (g := (mkF m 19 #[.val (.ref xc), .val (.ref b2), .val (.int (2 : Int32))] [(.ref x2), (.int (2 : Int32)), (.ref b2)])) rfl (by rw [hml]; rfl) (argsL := [(.ref x2)]) (rest := [(.int (2 : Int32)), (.ref b2)]) (lenOf own_pd_8 rfl) rfl (by show 2 * 0 + _ ≤ _; exact Nat.le_of_eq rfl) (hb hby own_d15_19) (fun _ _ => ⟨rfl, e22, (by decide : 1 + 0 ≤ _), (by decide : 3 + 0 ≤ _)⟩)
  dsimp only [Pt.U, Pt.locs, Pt.cells, Pt.slots] at X29 l29 y29 z29 st29 hQ29
  subst l29 y29 z29
  obtain ⟨Nc29, e29, rfl⟩ := hQ29
  have N29 := Fr.app N22 Nc29
  refine own_go st29 ?_
  show own_Goes p e below (T29.setTop (mkF m 22 #[.val (.ref xc), .val (.ref b2), .val (.int (2 : Int32))] [(.ref x2), (.int (2 : Int32)), (.ref b2)])) _
  obtain ⟨clu30, Aru30, qu30, Szu30, Ngu30, Hsu30, Gsu30⟩ := id V22
  have inu30 : ¬ ((2 : Int32) < 0 ∨ clu30.slots.size ≤ ((2 : Int32)).toNatClampNeg) := inb_of Szu30 ⟨by decide, by decide⟩
  have f31 := (((P3.ext E2).wr W12).wr W22)
  obtain ⟨T32, h32, X32, e32, W32, st32⟩ := stR X29 hx hZ e29 Aru30 (j := (2 : Int32)) inu30 rfl (Sto.ofV Aru30 qu30 Ov2 (Ins.of_exa f31 (hw _ (List.mem_of_getElem? (i := 92) rfl)))) (g := (mkF m 22 #[.val (.ref xc), .val (.ref b2), .val (.int (2 : Int32))] [(.ref x2), (.int (2 : Int32)), (.ref b2)])) rfl rfl (hb hby own_d15_22)
  refine own_go st32 ?_
  have V32 := Arv.set Aru30 qu30 Szu30 Ngu30 Hsu30 Gsu30 rfl W32 2 rfl (Nat.le_of_ble_eq_true rfl)
  have O33 := O23.wr W32 (show n0 ≤ b2 by omega)
  have sz34 : h32.size = h22.size := Wr.size W32
  have K35 := K25.wr W32 (Or.inr (show h0.size ≤ b2 by omega))
  have N32 := Fr.snoc X32 N29 (show n0 ≤ b2 by omega)
  have V32 : Arv Z h32 b2 k2 (.object "java/lang/Object") (3 : Int32) [(.ref x0), (.ref x1), (.ref x2)] .null := V32
  show own_Goes p e below (T32.setTop (mkF m 23 #[.val (.ref xc), .val (.ref b2), .val (.int (2 : Int32))] [])) _
  refine own_go (fun t_ k_ => XS.iinc X32.here hx rfl (hb hby own_d15_23) rfl (l' := #[.val (.ref xc), .val (.ref b2), .val (.int ((2 : Int32) + (1 : Int32)))]) rfl k_) ?_
  show own_Goes p e below (T32.setTop (mkF m 26 #[.val (.ref xc), .val (.ref b2), .val (.int ((2 : Int32) + (1 : Int32)))] [])) _
  rw [show ((2 : Int32) + (1 : Int32)) = (3 : Int32) from by decide]
  refine own_go (fun t_ k_ => XS.goto X32.here hx rfl (pc0 := 26) (pc' := 8) rfl (hb hby own_d15_26) (by decide) (by decide) k_) ?_
  show own_Goes p e below (T32.setTop (mkF m 8 #[.val (.ref xc), .val (.ref b2), .val (.int (3 : Int32))] [])) _
  refine own_go (fun t_ k_ => XS.iloadN X32.here hx rfl (hb hby own_d15_8) rfl k_) ?_
  show own_Goes p e below (T32.setTop (mkF m 9 #[.val (.ref xc), .val (.ref b2), .val (.int (3 : Int32))] [(.int (3 : Int32))])) _
  refine own_go (fun t_ k_ => XS.aloadN X32.here hx rfl (hb hby own_d15_9) rfl rfl k_) ?_
  show own_Goes p e below (T32.setTop (mkF m 10 #[.val (.ref xc), .val (.ref b2), .val (.int (3 : Int32))] [(.ref xc), (.int (3 : Int32))])) _
  have f36 := (f26.other W32 (own_ne (a := xc) (b := b2) (by omega)))
  obtain ⟨clu37, Aru37, qu37, Szu37, Ngu37, Hsu37, Gsu37⟩ := id f36
  refine own_go (fun t_ k_ => X32.arraylength hx (by rw [e32]; exact Aru37.1) (State.isArrayOf_alike hZ.alike Aru37.2.1) (g := (mkF m 10 #[.val (.ref xc), .val (.ref b2), .val (.int (3 : Int32))] [(.ref xc), (.int (3 : Int32))])) rfl rfl (hb hby own_d15_10) _ k_) ?_
  rw [len_of Szu37 Ngu37]
  show own_Goes p e below (T32.setTop (mkF m 11 #[.val (.ref xc), .val (.ref b2), .val (.int (3 : Int32))] [(.int (3 : Int32)), (.int (3 : Int32))])) _
  refine own_go (fun t_ k_ => XS.icmpYes X32.here hx rfl (pc0 := 11) (pc' := 29) rfl (hb hby own_d15_11) rfl (flt (show ¬ ((3 : Int32) < (3 : Int32)) from by decide)).2.1 (by decide) (by decide) k_) ?_
  show own_Goes p e below (T32.setTop (mkF m 29 #[.val (.ref xc), .val (.ref b2), .val (.int (3 : Int32))] [])) _
  obtain ⟨T38, h38, X38, e38, E38, A38, D38, -, st38⟩ := newO X32 hx hZ hown (hw _ (List.mem_of_getElem? (i := 93) rfl)) (hw _ (List.mem_of_getElem? (i := 94) rfl)) (hw _ (List.mem_of_getElem? (i := 76) rfl)) e32 (g := (mkF m 29 #[.val (.ref xc), .val (.ref b2), .val (.int (3 : Int32))] [])) rfl (hb hby own_d15_29) (by decide) (by decide)
  obtain ⟨b38, g38⟩ : ∃ z, z = h32.size := ⟨_, rfl⟩
  rw [← g38] at A38 D38 st38
  refine own_go st38 ?_
  have O39 := O33.ext E38
  have sz40 : h32.size ≤ h38.size := E38.1
  have K41 := K35.ext E38
  have l38 : @LT.lt Nat _ b38 h38.size := A38.lt
  have F38_elements : Fld Z h38 b38 "java/util/ImmutableCollections$ListN" "elements" "[Ljava/lang/Object;" .null := D38 (Or.inr (hw _ (List.mem_of_getElem? (i := 79) rfl))) (ty := (.array (.object "java/lang/Object"))) (by decide)
  have F38_allowNulls : Fld Z h38 b38 "java/util/ImmutableCollections$ListN" "allowNulls" "Z" (.int (0 : Int32)) := D38 (Or.inr (hw _ (List.mem_of_getElem? (i := 119) rfl))) (ty := .boolean) (by decide)
  show own_Goes p e below (T38.setTop (mkF m 32 #[.val (.ref xc), .val (.ref b2), .val (.int (3 : Int32))] [(.ref b38)])) _
  refine own_go (fun t_ k_ => XS.dup X38.here hx rfl (hb hby own_d15_32) rfl rfl k_) ?_
  show own_Goes p e below (T38.setTop (mkF m 33 #[.val (.ref xc), .val (.ref b2), .val (.int (3 : Int32))] [(.ref b38), (.ref b38)])) _
  refine own_go (fun t_ k_ => XS.aloadN X38.here hx rfl (hb hby own_d15_33) rfl rfl k_) ?_
  show own_Goes p e below (T38.setTop (mkF m 34 #[.val (.ref xc), .val (.ref b2), .val (.int (3 : Int32))] [(.ref b2), (.ref b38), (.ref b38)])) _
  refine own_go (fun t_ k_ => XS.iconst X38.here hx rfl (hb hby own_d15_34) k_) ?_
  show own_Goes p e below (T38.setTop (mkF m 35 #[.val (.ref xc), .val (.ref b2), .val (.int (3 : Int32))] [(.int (0 : Int32)), (.ref b2), (.ref b38), (.ref b38)])) _
  obtain ⟨_, _, ⟨T42, L42, k42, n42⟩, -, X42, ⟨Lc42, hQ42, l42, y42, z42⟩, st42⟩ := X38.specialBackNest hx (y := own_m11) rfl hown (own_mvM hZ (hw _ (List.mem_of_getElem? (i := 95) rfl))) (mvT hZ (hw _ (List.mem_of_getElem? (i := 96) rfl))) (mvT hZ (hw _ (List.mem_of_getElem? (i := 98) rfl))) (by decide) (backOf (W := 1) (own_lnInit l Z a0 hw [] b38 b2 h38 n0 O39 A38 F38_elements F38_allowNulls (show n0 ≤ b38 by first | assumption | omega | decide)) hZ (hw _ (List.mem_of_getElem? (i := 98) rfl)) (hw _ (List.mem_of_getElem? (i := 76) rfl)) (by decide) (by decide)) (g := (mkF m 35 #[.val (.ref xc), .val (.ref b2), .val (.int (3 : Int32))] [(.int (0 : Int32)), (.ref b2), (.ref b38), (.ref b38)])) rfl (by rw [hml]; rfl) (Steps.refl _) (a := b38) (argsL := [(.ref b2), (.int (0 : Int32))]) (rest := [(.ref b38)]) (lenOf own_pd_10 rfl) rfl (by show 2 * 0 + _ ≤ _; exact Nat.le_of_eq rfl) (hb hby own_d15_35) (fun _ _ => ⟨rfl, e38, (by decide : 2 + 0 ≤ _), (by decide : 5 + 0 ≤ _)⟩)
  dsimp only [Pt.U, Pt.locs, Pt.cells, Pt.slots] at X42 l42 y42 z42 st42 hQ42
  subst l42 y42 z42
  obtain ⟨h42, e42⟩ : ∃ z, T42.heap = z := ⟨_, rfl⟩
  rw [e42] at hQ42
  obtain ⟨Nc42, Kc42, rfl, c42_0⟩ := hQ42
  have N42 := Fr.app N32 Nc42
  have O43 := O39.keep Kc42 (allS (show n0 ≤ b38 by omega) all0)
  have sz44 : h38.size ≤ h42.size := Kc42.1
  have K45 := Keep.trans K41 Kc42 (allS (Or.inr (show h0.size ≤ b38 by omega)) all0)
  refine own_goS st42 ?_
  show own_Goes p e below (T42.setTop (mkF m 38 #[.val (.ref xc), .val (.ref b2), .val (.int (3 : Int32))] [(.ref b38)])) _
  refine own_endN X42 (v := (some (.ref b38))) (fun h => by rw [hret] at h; cases h) hlk (by decide) (by decide) ?_ (fun fs hr => retOut X42 hx hret rfl (Or.inr (Or.inr (Or.inr (Or.inr ⟨rfl, rfl, rfl⟩)))) (hb hby own_d15_38) hr)
  show Q_own_lfa Z xc xk x0 x1 x2 h0 n0 _ T42.heap _
  rw [e42]
  have f46 := (A38.keep Kc42)
  have f47 := ((V32.ext E38).keep Kc42 (ninS (own_ne (a := b2) (b := b38) (by omega)) nin0))
  exact ⟨N42, K45, b38, b2, k2, rfl, f46, c42_0, f47, (show h0.size ≤ b38 by first | assumption | omega | decide), (show h0.size ≤ b2 by first | assumption | omega | decide)⟩
theorem own_d10_0 : decode jdk_40_method_47_code 0 = .ok (.aload_n 0, 1) := by decide +kernel
theorem own_d10_1 : decode jdk_40_method_47_code 1 = .ok (.arraylength, 1) := by decide +kernel
theorem own_d10_2 : decode jdk_40_method_47_code 2 = .ok (.tableswitch 57 0 2 #[26, 32, 43], 26) := by decide +kernel
theorem own_d10_28 : decode jdk_40_method_47_code 28 = .ok (.getstatic 90, 3) := by decide +kernel
theorem own_d10_31 : decode jdk_40_method_47_code 31 = .ok (.astore_n 1, 1) := by decide +kernel
theorem own_d10_32 : decode jdk_40_method_47_code 32 = .ok (.aload_n 1, 1) := by decide +kernel
theorem own_d10_33 : decode jdk_40_method_47_code 33 = .ok (.areturn, 1) := by decide +kernel
theorem own_ef_own_lofA0 (m : MethodId) (xc : Addr) : entryFrame m #[(.ref xc)] 2 = mkF m 0 #[.val (.ref xc), .unset] [] := by first | (simp [entryFrame, mkF, argsToLocals, Value.category]; done) | rfl
def Q_own_lofA0 (Z : State) (xc : Addr) (xk : ClassId) (gz : Int32) (gwE : Addr) (gwO : Addr) (gwA : Addr) (gk : ClassId) (h0 : Heap) (n0 : Nat) (v : Option Value) (h : Heap) (L : List Loc) : Prop := Fr n0 L ∧ h = h0 ∧ v = some (.ref gwE)
set_option maxRecDepth 65536 in
set_option maxHeartbeats 40000000 in
theorem own_lofA0 (l : Launch) (Z : State) (a0 : Array Value) (hw : ∀ d ∈ tables_1, d.before a0 Z = true) (ws : List Jvm.Cond) (xc : Addr) (xk : ClassId) (h0 : Heap) (n0 : Nat) (O0 : Old Z n0 h0) (gz : Int32) (gwE : Addr) (gwO : Addr) (gwA : Addr) (gk : ClassId) (G : GG Z gz gwE gwO gwA gk) (P0 : Arv Z h0 xc xk (.object "java/lang/String") (0 : Int32) [] .null) :
    MetFree l (⟨"java/util/List", "of", "([Ljava/lang/Object;)Ljava/util/List;"⟩ : MethodName) (head1 (Jvm.Cond.code (⟨"java/util/List", "of", "([Ljava/lang/Object;)Ljava/util/List;"⟩ : MethodName) jdk_40_method_47_code 2 (some (.object "java/util/List")) :: ws) ({ frames := 0, cells := 0, slots := 0, locals := 0 } : Room)) (fun as_ U_ => as_ = #[(.ref xc)] ∧ Z.Warmed39 U_.vm ∧ U_.heap = h0) (fun _ _ _ _ _ => True) (fun _ U_ o_ U2_ => ∃ v_ L_, o_ = .returned v_ ∧ Q_own_lofA0 Z xc xk gz gwE gwO gwA gk h0 n0 v_ U2_.heap L_ ∧ FrameEnd U_ o_ U2_ L_ ({ frames := 0, cells := 0, slots := 0, locals := 0 } : Room).cells ({ frames := 0, cells := 0, slots := 0, locals := 0 } : Room).slots) := by
  refine MetFree.of_bodySF (plainFor_of_name own_pn_java_util_List) hisR ?_
  intro p e s m args below meth c s₁ Bd hml0 hP hK
  obtain ⟨rfl, hZ, hh⟩ := hP
  have hx := Bd.exec
  have hby := Bd.bytes
  have hml : c.maxLocals = 2 := hml0
  have hown : s.vm.findClass "java/util/List" = some m.cls := findClass_of_methodNamed Bd.named
  have hnm := (name_of_methodNamed Bd.named Bd.method).1
  have hlk : meth.locks = false := Bd.notSynchronized
  have hret := Bd.returns
  have X0 : Stand p l e ({ frames := 0, cells := 0, slots := 0, locals := 0 } : Room) s m #[(.ref xc)] below meth c s₁ [] 0 0 := Stand.of_body Bd
  have e0 : s₁.heap = h0 := by rw [← hh, Bd.state]; rfl
  have N0 := Fr.nil n0
  have z0 : Z.heap.size = n0 := O0.1
  have z1 : n0 ≤ h0.size := z0 ▸ O0.2.1
  show own_Goes p e below (s₁.setTop (entryFrame m #[(.ref xc)] 2)) (own_PostN s (Q_own_lofA0 Z xc xk gz gwE gwO gwA gk h0 n0) ({ frames := 0, cells := 0, slots := 0, locals := 0 } : Room).cells ({ frames := 0, cells := 0, slots := 0, locals := 0 } : Room).slots)
  refine own_cast (own_ef_own_lofA0 m xc) ?_
  show own_Goes p e below (s₁.setTop (mkF m 0 #[.val (.ref xc), .unset] [])) _
  obtain ⟨G0, G1, G2, G3, G4, G5, G6, G7⟩ := id G
  have ltG3 : @LT.lt Nat _ gwE Z.heap.size := G3.lt
  have ltG5 : @LT.lt Nat _ gwO Z.heap.size := G5.lt
  have ltG7 : @LT.lt Nat _ gwA Z.heap.size := G7.lt
  have ltP0 : @LT.lt Nat _ xc h0.size := P0.lt
  refine own_go (fun t_ k_ => XS.aloadN X0.here hx rfl (hb hby own_d10_0) rfl rfl k_) ?_
  show own_Goes p e below (s₁.setTop (mkF m 1 #[.val (.ref xc), .unset] [(.ref xc)])) _
  obtain ⟨clu1, Aru1, qu1, Szu1, Ngu1, Hsu1, Gsu1⟩ := id P0
  refine own_go (fun t_ k_ => X0.arraylength hx (by rw [e0]; exact Aru1.1) (State.isArrayOf_alike hZ.alike Aru1.2.1) (g := (mkF m 1 #[.val (.ref xc), .unset] [(.ref xc)])) rfl rfl (hb hby own_d10_1) _ k_) ?_
  rw [len_of Szu1 Ngu1]
  show own_Goes p e below (s₁.setTop (mkF m 2 #[.val (.ref xc), .unset] [(.int (0 : Int32))])) _
  refine own_go (fun t_ k_ => XS.tswIn X0.here hx rfl (pc0 := 2) (pc' := 28) rfl (hb hby own_d10_2) rfl (by decide) rfl (by decide) (by decide) k_) ?_
  show own_Goes p e below (s₁.setTop (mkF m 28 #[.val (.ref xc), .unset] [])) _
  have q2 := G2.ext O0.2
  obtain ⟨T3, X3, e3, st3⟩ := getS2 X0 hx hZ hown (host := "") (Or.inl (hw _ (List.mem_of_getElem? (i := 45) rfl))) Via.refl e0 q2 (g := (mkF m 28 #[.val (.ref xc), .unset] [])) rfl (hb hby own_d10_28)
  refine own_go st3 ?_
  show own_Goes p e below (T3.setTop (mkF m 31 #[.val (.ref xc), .unset] [(.ref gwE)])) _
  refine own_go (fun t_ k_ => XS.astoreN X3.here hx rfl (hb hby own_d10_31) rfl rfl (l' := #[.val (.ref xc), .val (.ref gwE)]) rfl k_) ?_
  show own_Goes p e below (T3.setTop (mkF m 32 #[.val (.ref xc), .val (.ref gwE)] [])) _
  refine own_go (fun t_ k_ => XS.aloadN X3.here hx rfl (hb hby own_d10_32) rfl rfl k_) ?_
  show own_Goes p e below (T3.setTop (mkF m 33 #[.val (.ref xc), .val (.ref gwE)] [(.ref gwE)])) _
  refine own_endN X3 (v := (some (.ref gwE))) (fun h => by rw [hret] at h; cases h) hlk (by decide) (by decide) ?_ (fun fs hr => retOut X3 hx hret rfl (Or.inr (Or.inr (Or.inr (Or.inr ⟨rfl, rfl, rfl⟩)))) (hb hby own_d10_33) hr)
  show Q_own_lofA0 Z xc xk gz gwE gwO gwA gk h0 n0 _ T3.heap _
  rw [e3]
  exact ⟨N0, rfl, rfl⟩
theorem own_d10_34 : decode jdk_40_method_47_code 34 = .ok (.new 96, 3) := by decide +kernel
theorem own_d10_37 : decode jdk_40_method_47_code 37 = .ok (.dup, 1) := by decide +kernel
theorem own_d10_38 : decode jdk_40_method_47_code 38 = .ok (.aload_n 0, 1) := by decide +kernel
theorem own_d10_39 : decode jdk_40_method_47_code 39 = .ok (.iconst 0, 1) := by decide +kernel
theorem own_d10_40 : decode jdk_40_method_47_code 40 = .ok (.aaload, 1) := by decide +kernel
theorem own_d10_41 : decode jdk_40_method_47_code 41 = .ok (.invokespecial 98, 3) := by decide +kernel
theorem own_pd_12 : parseMethodDescriptor "(Ljava/lang/Object;)V" = some ⟨[(.object "java/lang/Object")], none⟩ := by decide +kernel
abbrev own_m13 : MethodName := ⟨"java/util/ImmutableCollections$List12", "<init>", "(Ljava/lang/Object;)V"⟩
theorem own_d10_44 : decode jdk_40_method_47_code 44 = .ok (.areturn, 1) := by decide +kernel
theorem own_ef_own_lofA1 (m : MethodId) (xc : Addr) : entryFrame m #[(.ref xc)] 2 = mkF m 0 #[.val (.ref xc), .unset] [] := by first | (simp [entryFrame, mkF, argsToLocals, Value.category]; done) | rfl
def Q_own_lofA1 (Z : State) (xc : Addr) (xk : ClassId) (x0 : Addr) (gz : Int32) (gwE : Addr) (gwO : Addr) (gwA : Addr) (gk : ClassId) (h0 : Heap) (n0 : Nat) (v : Option Value) (h : Heap) (L : List Loc) : Prop := Fr n0 L ∧ Keep h0 h [] ∧ ∃ (r : Addr), v = some (.ref r) ∧ Exa Z h r "java/util/ImmutableCollections$List12" ∧ Fld Z h r "java/util/ImmutableCollections$List12" "e0" "Ljava/lang/Object;" (.ref x0) ∧ Fld Z h r "java/util/ImmutableCollections$List12" "e1" "Ljava/lang/Object;" (.ref gwO) ∧ h0.size ≤ r
set_option maxRecDepth 65536 in
set_option maxHeartbeats 40000000 in
theorem own_lofA1 (l : Launch) (Z : State) (a0 : Array Value) (hw : ∀ d ∈ tables_1, d.before a0 Z = true) (ws : List Jvm.Cond) (xc : Addr) (xk : ClassId) (x0 : Addr) (h0 : Heap) (n0 : Nat) (O0 : Old Z n0 h0) (gz : Int32) (gwE : Addr) (gwO : Addr) (gwA : Addr) (gk : ClassId) (G : GG Z gz gwE gwO gwA gk) (P0 : Arv Z h0 xc xk (.object "java/lang/String") (1 : Int32) [(.ref x0)] .null) (P1 : Exa Z h0 x0 "java/lang/String") :
    MetFree l (⟨"java/util/List", "of", "([Ljava/lang/Object;)Ljava/util/List;"⟩ : MethodName) (head1 (Jvm.Cond.code (⟨"java/util/List", "of", "([Ljava/lang/Object;)Ljava/util/List;"⟩ : MethodName) jdk_40_method_47_code 2 (some (.object "java/util/List")) :: ws) ({ frames := 5, cells := 1, slots := 2, locals := 62 } : Room)) (fun as_ U_ => as_ = #[(.ref xc)] ∧ Z.Warmed39 U_.vm ∧ U_.heap = h0) (fun _ _ _ _ _ => True) (fun _ U_ o_ U2_ => ∃ v_ L_, o_ = .returned v_ ∧ Q_own_lofA1 Z xc xk x0 gz gwE gwO gwA gk h0 n0 v_ U2_.heap L_ ∧ FrameEnd U_ o_ U2_ L_ ({ frames := 5, cells := 1, slots := 2, locals := 62 } : Room).cells ({ frames := 5, cells := 1, slots := 2, locals := 62 } : Room).slots) := by
  refine MetFree.of_bodySF (plainFor_of_name own_pn_java_util_List) hisR ?_
  intro p e s m args below meth c s₁ Bd hml0 hP hK
  obtain ⟨rfl, hZ, hh⟩ := hP
  have hx := Bd.exec
  have hby := Bd.bytes
  have hml : c.maxLocals = 2 := hml0
  have hown : s.vm.findClass "java/util/List" = some m.cls := findClass_of_methodNamed Bd.named
  have hnm := (name_of_methodNamed Bd.named Bd.method).1
  have hlk : meth.locks = false := Bd.notSynchronized
  have hret := Bd.returns
  have X0 : Stand p l e ({ frames := 5, cells := 1, slots := 2, locals := 62 } : Room) s m #[(.ref xc)] below meth c s₁ [] 0 0 := Stand.of_body Bd
  have e0 : s₁.heap = h0 := by rw [← hh, Bd.state]; rfl
  have N0 := Fr.nil n0
  have z0 : Z.heap.size = n0 := O0.1
  have z1 : n0 ≤ h0.size := z0 ▸ O0.2.1
  have K0 : Keep h0 h0 [] := Keep.refl _ _
  show own_Goes p e below (s₁.setTop (entryFrame m #[(.ref xc)] 2)) (own_PostN s (Q_own_lofA1 Z xc xk x0 gz gwE gwO gwA gk h0 n0) ({ frames := 5, cells := 1, slots := 2, locals := 62 } : Room).cells ({ frames := 5, cells := 1, slots := 2, locals := 62 } : Room).slots)
  refine own_cast (own_ef_own_lofA1 m xc) ?_
  show own_Goes p e below (s₁.setTop (mkF m 0 #[.val (.ref xc), .unset] [])) _
  obtain ⟨G0, G1, G2, G3, G4, G5, G6, G7⟩ := id G
  have ltG3 : @LT.lt Nat _ gwE Z.heap.size := G3.lt
  have ltG5 : @LT.lt Nat _ gwO Z.heap.size := G5.lt
  have ltG7 : @LT.lt Nat _ gwA Z.heap.size := G7.lt
  have ltP0 : @LT.lt Nat _ xc h0.size := P0.lt
  have ltP1 : @LT.lt Nat _ x0 h0.size := P1.lt
  refine own_go (fun t_ k_ => XS.aloadN X0.here hx rfl (hb hby own_d10_0) rfl rfl k_) ?_
  show own_Goes p e below (s₁.setTop (mkF m 1 #[.val (.ref xc), .unset] [(.ref xc)])) _
  obtain ⟨clu1, Aru1, qu1, Szu1, Ngu1, Hsu1, Gsu1⟩ := id P0
  refine own_go (fun t_ k_ => X0.arraylength hx (by rw [e0]; exact Aru1.1) (State.isArrayOf_alike hZ.alike Aru1.2.1) (g := (mkF m 1 #[.val (.ref xc), .unset] [(.ref xc)])) rfl rfl (hb hby own_d10_1) _ k_) ?_
  rw [len_of Szu1 Ngu1]
  show own_Goes p e below (s₁.setTop (mkF m 2 #[.val (.ref xc), .unset] [(.int (1 : Int32))])) _
  refine own_go (fun t_ k_ => XS.tswIn X0.here hx rfl (pc0 := 2) (pc' := 34) rfl (hb hby own_d10_2) rfl (by decide) rfl (by decide) (by decide) k_) ?_
  show own_Goes p e below (s₁.setTop (mkF m 34 #[.val (.ref xc), .unset] [])) _
  obtain ⟨T2, h2, X2, e2, E2, A2, D2, -, st2⟩ := newO X0 hx hZ hown (hw _ (List.mem_of_getElem? (i := 133) rfl)) (hw _ (List.mem_of_getElem? (i := 134) rfl)) (hw _ (List.mem_of_getElem? (i := 135) rfl)) e0 (g := (mkF m 34 #[.val (.ref xc), .unset] [])) rfl (hb hby own_d10_34) (by decide) (by decide)
  obtain ⟨b2, g2⟩ : ∃ z, z = h0.size := ⟨_, rfl⟩
  rw [← g2] at A2 D2 st2
  refine own_go st2 ?_
  have O3 := O0.ext E2
  have sz4 : h0.size ≤ h2.size := E2.1
  have K5 := K0.ext E2
  have l2 : @LT.lt Nat _ b2 h2.size := A2.lt
  have F2_e0 : Fld Z h2 b2 "java/util/ImmutableCollections$List12" "e0" "Ljava/lang/Object;" .null := D2 (Or.inr (hw _ (List.mem_of_getElem? (i := 146) rfl))) (ty := (.object "java/lang/Object")) (by decide)
  have F2_e1 : Fld Z h2 b2 "java/util/ImmutableCollections$List12" "e1" "Ljava/lang/Object;" .null := D2 (Or.inr (hw _ (List.mem_of_getElem? (i := 148) rfl))) (ty := (.object "java/lang/Object")) (by decide)
  show own_Goes p e below (T2.setTop (mkF m 37 #[.val (.ref xc), .unset] [(.ref b2)])) _
  refine own_go (fun t_ k_ => XS.dup X2.here hx rfl (hb hby own_d10_37) rfl rfl k_) ?_
  show own_Goes p e below (T2.setTop (mkF m 38 #[.val (.ref xc), .unset] [(.ref b2), (.ref b2)])) _
  refine own_go (fun t_ k_ => XS.aloadN X2.here hx rfl (hb hby own_d10_38) rfl rfl k_) ?_
  show own_Goes p e below (T2.setTop (mkF m 39 #[.val (.ref xc), .unset] [(.ref xc), (.ref b2), (.ref b2)])) _
  refine own_go (fun t_ k_ => XS.iconst X2.here hx rfl (hb hby own_d10_39) k_) ?_
  show own_Goes p e below (T2.setTop (mkF m 40 #[.val (.ref xc), .unset] [(.int (0 : Int32)), (.ref xc), (.ref b2), (.ref b2)])) _
  have f6 := (P0.ext E2)
  obtain ⟨clu7, Aru7, qu7, Szu7, Ngu7, Hsu7, Gsu7⟩ := id f6
  have inu7 : ¬ ((0 : Int32) < 0 ∨ clu7.slots.size ≤ ((0 : Int32)).toNatClampNeg) := inb_of Szu7 ⟨by decide, by decide⟩
  have atu7 : clu7.slots[((0 : Int32)).toNatClampNeg]? = some (.ref x0) := Hsu7.at inu7 rfl
  refine own_go (fun t_ k_ => X2.aaload hx (j := (0 : Int32)) (v := (.ref x0)) (by rw [e2]; exact Aru7.1) (State.isArrayOf_alike hZ.alike Aru7.2.1) rfl Aru7.2.2 inu7 atu7 (g := (mkF m 40 #[.val (.ref xc), .unset] [(.int (0 : Int32)), (.ref xc), (.ref b2), (.ref b2)])) rfl rfl (hb hby own_d10_40) _ k_) ?_
  show own_Goes p e below (T2.setTop (mkF m 41 #[.val (.ref xc), .unset] [(.ref x0), (.ref b2), (.ref b2)])) _
  obtain ⟨_, _, ⟨T8, L8, k8, n8⟩, -, X8, ⟨Lc8, hQ8, l8, y8, z8⟩, st8⟩ := X2.specialBack hx (y := own_m13) rfl hown (mvT hZ (hw _ (List.mem_of_getElem? (i := 161) rfl))) (mvT hZ (hw _ (List.mem_of_getElem? (i := 162) rfl))) (mvT hZ (hw _ (List.mem_of_getElem? (i := 163) rfl))) (by decide) (backOf (W := 1) (own_l12a l Z a0 hw [] b2 x0 h2 n0 O3 gz gwE gwO gwA gk G A2 F2_e0 F2_e1 (show n0 ≤ b2 by first | assumption | omega | decide)) hZ (hw _ (List.mem_of_getElem? (i := 163) rfl)) (hw _ (List.mem_of_getElem? (i := 135) rfl)) (by decide) (by decide)) (g := (mkF m 41 #[.val (.ref xc), .unset] [(.ref x0), (.ref b2), (.ref b2)])) rfl (by rw [hml]; rfl) (Steps.refl _) (a := b2) (argsL := [(.ref x0)]) (rest := [(.ref b2)]) (lenOf own_pd_12 rfl) rfl (by show 2 * 0 + _ ≤ _; exact Nat.le_of_eq rfl) (hb hby own_d10_41) (fun _ _ => ⟨rfl, e2, (by decide : 1 + 0 ≤ _), (by decide : 2 + 0 ≤ _)⟩)
  dsimp only [Pt.U, Pt.locs, Pt.cells, Pt.slots] at X8 l8 y8 z8 st8 hQ8
  subst l8 y8 z8
  obtain ⟨h8, e8⟩ : ∃ z, T8.heap = z := ⟨_, rfl⟩
  rw [e8] at hQ8
  obtain ⟨Nc8, Kc8, rfl, c8_0, c8_1⟩ := hQ8
  have N8 := Fr.app N0 Nc8
  have O9 := O3.keep Kc8 (allS (show n0 ≤ b2 by omega) all0)
  have sz10 : h2.size ≤ h8.size := Kc8.1
  have K11 := Keep.trans K5 Kc8 (allS (Or.inr (show h0.size ≤ b2 by omega)) all0)
  refine own_goS st8 ?_
  show own_Goes p e below (T8.setTop (mkF m 44 #[.val (.ref xc), .unset] [(.ref b2)])) _
  refine own_endN X8 (v := (some (.ref b2))) (fun h => by rw [hret] at h; cases h) hlk (by decide) (by decide) ?_ (fun fs hr => retOut X8 hx hret rfl (Or.inr (Or.inr (Or.inr (Or.inr ⟨rfl, rfl, rfl⟩)))) (hb hby own_d10_44) hr)
  show Q_own_lofA1 Z xc xk x0 gz gwE gwO gwA gk h0 n0 _ T8.heap _
  rw [e8]
  have f12 := (A2.keep Kc8)
  exact ⟨N8, K11, b2, rfl, f12, c8_0, c8_1, (show h0.size ≤ b2 by first | assumption | omega | decide)⟩
theorem own_d10_45 : decode jdk_40_method_47_code 45 = .ok (.new 96, 3) := by decide +kernel
theorem own_d10_48 : decode jdk_40_method_47_code 48 = .ok (.dup, 1) := by decide +kernel
theorem own_d10_49 : decode jdk_40_method_47_code 49 = .ok (.aload_n 0, 1) := by decide +kernel
theorem own_d10_50 : decode jdk_40_method_47_code 50 = .ok (.iconst 0, 1) := by decide +kernel
theorem own_d10_51 : decode jdk_40_method_47_code 51 = .ok (.aaload, 1) := by decide +kernel
theorem own_d10_52 : decode jdk_40_method_47_code 52 = .ok (.aload_n 0, 1) := by decide +kernel
theorem own_d10_53 : decode jdk_40_method_47_code 53 = .ok (.iconst 1, 1) := by decide +kernel
theorem own_d10_54 : decode jdk_40_method_47_code 54 = .ok (.aaload, 1) := by decide +kernel
theorem own_d10_55 : decode jdk_40_method_47_code 55 = .ok (.invokespecial 100, 3) := by decide +kernel
theorem own_pd_14 : parseMethodDescriptor "(Ljava/lang/Object;Ljava/lang/Object;)V" = some ⟨[(.object "java/lang/Object"), (.object "java/lang/Object")], none⟩ := by decide +kernel
abbrev own_m15 : MethodName := ⟨"java/util/ImmutableCollections$List12", "<init>", "(Ljava/lang/Object;Ljava/lang/Object;)V"⟩
theorem own_d10_58 : decode jdk_40_method_47_code 58 = .ok (.areturn, 1) := by decide +kernel
theorem own_ef_own_lofA2 (m : MethodId) (xc : Addr) : entryFrame m #[(.ref xc)] 2 = mkF m 0 #[.val (.ref xc), .unset] [] := by first | (simp [entryFrame, mkF, argsToLocals, Value.category]; done) | rfl
def Q_own_lofA2 (Z : State) (xc : Addr) (xk : ClassId) (x0 : Addr) (x1 : Addr) (h0 : Heap) (n0 : Nat) (v : Option Value) (h : Heap) (L : List Loc) : Prop := Fr n0 L ∧ Keep h0 h [] ∧ ∃ (r : Addr), v = some (.ref r) ∧ Exa Z h r "java/util/ImmutableCollections$List12" ∧ Fld Z h r "java/util/ImmutableCollections$List12" "e0" "Ljava/lang/Object;" (.ref x0) ∧ Fld Z h r "java/util/ImmutableCollections$List12" "e1" "Ljava/lang/Object;" (.ref x1) ∧ h0.size ≤ r
set_option maxRecDepth 65536 in
set_option maxHeartbeats 40000000 in
theorem own_lofA2 (l : Launch) (Z : State) (a0 : Array Value) (hw : ∀ d ∈ tables_1, d.before a0 Z = true) (ws : List Jvm.Cond) (xc : Addr) (xk : ClassId) (x0 : Addr) (x1 : Addr) (h0 : Heap) (n0 : Nat) (O0 : Old Z n0 h0) (P0 : Arv Z h0 xc xk (.object "java/lang/String") (2 : Int32) [(.ref x0), (.ref x1)] .null) (P1 : Exa Z h0 x0 "java/lang/String") (P2 : Exa Z h0 x1 "java/lang/String") :
    MetFree l (⟨"java/util/List", "of", "([Ljava/lang/Object;)Ljava/util/List;"⟩ : MethodName) (head1 (Jvm.Cond.code (⟨"java/util/List", "of", "([Ljava/lang/Object;)Ljava/util/List;"⟩ : MethodName) jdk_40_method_47_code 2 (some (.object "java/util/List")) :: ws) ({ frames := 5, cells := 1, slots := 2, locals := 63 } : Room)) (fun as_ U_ => as_ = #[(.ref xc)] ∧ Z.Warmed39 U_.vm ∧ U_.heap = h0) (fun _ _ _ _ _ => True) (fun _ U_ o_ U2_ => ∃ v_ L_, o_ = .returned v_ ∧ Q_own_lofA2 Z xc xk x0 x1 h0 n0 v_ U2_.heap L_ ∧ FrameEnd U_ o_ U2_ L_ ({ frames := 5, cells := 1, slots := 2, locals := 63 } : Room).cells ({ frames := 5, cells := 1, slots := 2, locals := 63 } : Room).slots) := by
  refine MetFree.of_bodySF (plainFor_of_name own_pn_java_util_List) hisR ?_
  intro p e s m args below meth c s₁ Bd hml0 hP hK
  obtain ⟨rfl, hZ, hh⟩ := hP
  have hx := Bd.exec
  have hby := Bd.bytes
  have hml : c.maxLocals = 2 := hml0
  have hown : s.vm.findClass "java/util/List" = some m.cls := findClass_of_methodNamed Bd.named
  have hnm := (name_of_methodNamed Bd.named Bd.method).1
  have hlk : meth.locks = false := Bd.notSynchronized
  have hret := Bd.returns
  have X0 : Stand p l e ({ frames := 5, cells := 1, slots := 2, locals := 63 } : Room) s m #[(.ref xc)] below meth c s₁ [] 0 0 := Stand.of_body Bd
  have e0 : s₁.heap = h0 := by rw [← hh, Bd.state]; rfl
  have N0 := Fr.nil n0
  have z0 : Z.heap.size = n0 := O0.1
  have z1 : n0 ≤ h0.size := z0 ▸ O0.2.1
  have K0 : Keep h0 h0 [] := Keep.refl _ _
  show own_Goes p e below (s₁.setTop (entryFrame m #[(.ref xc)] 2)) (own_PostN s (Q_own_lofA2 Z xc xk x0 x1 h0 n0) ({ frames := 5, cells := 1, slots := 2, locals := 63 } : Room).cells ({ frames := 5, cells := 1, slots := 2, locals := 63 } : Room).slots)
  refine own_cast (own_ef_own_lofA2 m xc) ?_
  show own_Goes p e below (s₁.setTop (mkF m 0 #[.val (.ref xc), .unset] [])) _
  have ltP0 : @LT.lt Nat _ xc h0.size := P0.lt
  have ltP1 : @LT.lt Nat _ x0 h0.size := P1.lt
  have ltP2 : @LT.lt Nat _ x1 h0.size := P2.lt
  refine own_go (fun t_ k_ => XS.aloadN X0.here hx rfl (hb hby own_d10_0) rfl rfl k_) ?_
  show own_Goes p e below (s₁.setTop (mkF m 1 #[.val (.ref xc), .unset] [(.ref xc)])) _
  obtain ⟨clu1, Aru1, qu1, Szu1, Ngu1, Hsu1, Gsu1⟩ := id P0
  refine own_go (fun t_ k_ => X0.arraylength hx (by rw [e0]; exact Aru1.1) (State.isArrayOf_alike hZ.alike Aru1.2.1) (g := (mkF m 1 #[.val (.ref xc), .unset] [(.ref xc)])) rfl rfl (hb hby own_d10_1) _ k_) ?_
  rw [len_of Szu1 Ngu1]
  show own_Goes p e below (s₁.setTop (mkF m 2 #[.val (.ref xc), .unset] [(.int (2 : Int32))])) _
  refine own_go (fun t_ k_ => XS.tswIn X0.here hx rfl (pc0 := 2) (pc' := 45) rfl (hb hby own_d10_2) rfl (by decide) rfl (by decide) (by decide) k_) ?_
  show own_Goes p e below (s₁.setTop (mkF m 45 #[.val (.ref xc), .unset] [])) _
  obtain ⟨T2, h2, X2, e2, E2, A2, D2, -, st2⟩ := newO X0 hx hZ hown (hw _ (List.mem_of_getElem? (i := 133) rfl)) (hw _ (List.mem_of_getElem? (i := 134) rfl)) (hw _ (List.mem_of_getElem? (i := 135) rfl)) e0 (g := (mkF m 45 #[.val (.ref xc), .unset] [])) rfl (hb hby own_d10_45) (by decide) (by decide)
  obtain ⟨b2, g2⟩ : ∃ z, z = h0.size := ⟨_, rfl⟩
  rw [← g2] at A2 D2 st2
  refine own_go st2 ?_
  have O3 := O0.ext E2
  have sz4 : h0.size ≤ h2.size := E2.1
  have K5 := K0.ext E2
  have l2 : @LT.lt Nat _ b2 h2.size := A2.lt
  have F2_e0 : Fld Z h2 b2 "java/util/ImmutableCollections$List12" "e0" "Ljava/lang/Object;" .null := D2 (Or.inr (hw _ (List.mem_of_getElem? (i := 146) rfl))) (ty := (.object "java/lang/Object")) (by decide)
  have F2_e1 : Fld Z h2 b2 "java/util/ImmutableCollections$List12" "e1" "Ljava/lang/Object;" .null := D2 (Or.inr (hw _ (List.mem_of_getElem? (i := 148) rfl))) (ty := (.object "java/lang/Object")) (by decide)
  show own_Goes p e below (T2.setTop (mkF m 48 #[.val (.ref xc), .unset] [(.ref b2)])) _
  refine own_go (fun t_ k_ => XS.dup X2.here hx rfl (hb hby own_d10_48) rfl rfl k_) ?_
  show own_Goes p e below (T2.setTop (mkF m 49 #[.val (.ref xc), .unset] [(.ref b2), (.ref b2)])) _
  refine own_go (fun t_ k_ => XS.aloadN X2.here hx rfl (hb hby own_d10_49) rfl rfl k_) ?_
  show own_Goes p e below (T2.setTop (mkF m 50 #[.val (.ref xc), .unset] [(.ref xc), (.ref b2), (.ref b2)])) _
  refine own_go (fun t_ k_ => XS.iconst X2.here hx rfl (hb hby own_d10_50) k_) ?_
  show own_Goes p e below (T2.setTop (mkF m 51 #[.val (.ref xc), .unset] [(.int (0 : Int32)), (.ref xc), (.ref b2), (.ref b2)])) _
  have f6 := (P0.ext E2)
  obtain ⟨clu7, Aru7, qu7, Szu7, Ngu7, Hsu7, Gsu7⟩ := id f6
  have inu7 : ¬ ((0 : Int32) < 0 ∨ clu7.slots.size ≤ ((0 : Int32)).toNatClampNeg) := inb_of Szu7 ⟨by decide, by decide⟩
  have atu7 : clu7.slots[((0 : Int32)).toNatClampNeg]? = some (.ref x0) := Hsu7.at inu7 rfl
  refine own_go (fun t_ k_ => X2.aaload hx (j := (0 : Int32)) (v := (.ref x0)) (by rw [e2]; exact Aru7.1) (State.isArrayOf_alike hZ.alike Aru7.2.1) rfl Aru7.2.2 inu7 atu7 (g := (mkF m 51 #[.val (.ref xc), .unset] [(.int (0 : Int32)), (.ref xc), (.ref b2), (.ref b2)])) rfl rfl (hb hby own_d10_51) _ k_) ?_
  show own_Goes p e below (T2.setTop (mkF m 52 #[.val (.ref xc), .unset] [(.ref x0), (.ref b2), (.ref b2)])) _
  refine own_go (fun t_ k_ => XS.aloadN X2.here hx rfl (hb hby own_d10_52) rfl rfl k_) ?_
  show own_Goes p e below (T2.setTop (mkF m 53 #[.val (.ref xc), .unset] [(.ref xc), (.ref x0), (.ref b2), (.ref b2)])) _
  refine own_go (fun t_ k_ => XS.iconst X2.here hx rfl (hb hby own_d10_53) k_) ?_
  show own_Goes p e below (T2.setTop (mkF m 54 #[.val (.ref xc), .unset] [(.int (1 : Int32)), (.ref xc), (.ref x0), (.ref b2), (.ref b2)])) _
  obtain ⟨clu8, Aru8, qu8, Szu8, Ngu8, Hsu8, Gsu8⟩ := id f6
  have inu8 : ¬ ((1 : Int32) < 0 ∨ clu8.slots.size ≤ ((1 : Int32)).toNatClampNeg) := inb_of Szu8 ⟨by decide, by decide⟩
  have atu8 : clu8.slots[((1 : Int32)).toNatClampNeg]? = some (.ref x1) := Hsu8.at inu8 rfl
  refine own_go (fun t_ k_ => X2.aaload hx (j := (1 : Int32)) (v := (.ref x1)) (by rw [e2]; exact Aru8.1) (State.isArrayOf_alike hZ.alike Aru8.2.1) rfl Aru8.2.2 inu8 atu8 (g := (mkF m 54 #[.val (.ref xc), .unset] [(.int (1 : Int32)), (.ref xc), (.ref x0), (.ref b2), (.ref b2)])) rfl rfl (hb hby own_d10_54) _ k_) ?_
  show own_Goes p e below (T2.setTop (mkF m 55 #[.val (.ref xc), .unset] [(.ref x1), (.ref x0), (.ref b2), (.ref b2)])) _
  obtain ⟨_, _, ⟨T9, L9, k9, n9⟩, -, X9, ⟨Lc9, hQ9, l9, y9, z9⟩, st9⟩ := X2.specialBack hx (y := own_m15) rfl hown (mvT hZ (hw _ (List.mem_of_getElem? (i := 136) rfl))) (mvT hZ (hw _ (List.mem_of_getElem? (i := 137) rfl))) (mvT hZ (hw _ (List.mem_of_getElem? (i := 139) rfl))) (by decide) (backOf (W := 1) (own_l12b l Z a0 hw [] b2 x0 x1 h2 n0 O3 A2 F2_e0 F2_e1 (show n0 ≤ b2 by first | assumption | omega | decide)) hZ (hw _ (List.mem_of_getElem? (i := 139) rfl)) (hw _ (List.mem_of_getElem? (i := 135) rfl)) (by decide) (by decide)) (g := (mkF m 55 #[.val (.ref xc), .unset] [(.ref x1), (.ref x0), (.ref b2), (.ref b2)])) rfl (by rw [hml]; rfl) (Steps.refl _) (a := b2) (argsL := [(.ref x0), (.ref x1)]) (rest := [(.ref b2)]) (lenOf own_pd_14 rfl) rfl (by show 2 * 0 + _ ≤ _; exact Nat.le_of_eq rfl) (hb hby own_d10_55) (fun _ _ => ⟨rfl, e2, (by decide : 1 + 0 ≤ _), (by decide : 2 + 0 ≤ _)⟩)
  dsimp only [Pt.U, Pt.locs, Pt.cells, Pt.slots] at X9 l9 y9 z9 st9 hQ9
  subst l9 y9 z9
  obtain ⟨h9, e9⟩ : ∃ z, T9.heap = z := ⟨_, rfl⟩
  rw [e9] at hQ9
  obtain ⟨Nc9, Kc9, rfl, c9_0, c9_1⟩ := hQ9
  have N9 := Fr.app N0 Nc9
  have O10 := O3.keep Kc9 (allS (show n0 ≤ b2 by omega) all0)
  have sz11 : h2.size ≤ h9.size := Kc9.1
  have K12 := Keep.trans K5 Kc9 (allS (Or.inr (show h0.size ≤ b2 by omega)) all0)
  refine own_goS st9 ?_
  show own_Goes p e below (T9.setTop (mkF m 58 #[.val (.ref xc), .unset] [(.ref b2)])) _
  refine own_endN X9 (v := (some (.ref b2))) (fun h => by rw [hret] at h; cases h) hlk (by decide) (by decide) ?_ (fun fs hr => retOut X9 hx hret rfl (Or.inr (Or.inr (Or.inr (Or.inr ⟨rfl, rfl, rfl⟩)))) (hb hby own_d10_58) hr)
  show Q_own_lofA2 Z xc xk x0 x1 h0 n0 _ T9.heap _
  rw [e9]
  have f13 := (A2.keep Kc9)
  exact ⟨N9, K12, b2, rfl, f13, c9_0, c9_1, (show h0.size ≤ b2 by first | assumption | omega | decide)⟩
theorem own_d10_59 : decode jdk_40_method_47_code 59 = .ok (.aload_n 0, 1) := by decide +kernel
theorem own_d10_60 : decode jdk_40_method_47_code 60 = .ok (.invokestatic 109, 3) := by decide +kernel
theorem own_pd_16 : parseMethodDescriptor "([Ljava/lang/Object;)Ljava/util/List;" = some ⟨[(.array (.object "java/lang/Object"))], some (.object "java/util/List")⟩ := by decide +kernel
abbrev own_m17 : MethodName := ⟨"java/util/ImmutableCollections", "listFromArray", "([Ljava/lang/Object;)Ljava/util/List;"⟩
theorem own_d10_63 : decode jdk_40_method_47_code 63 = .ok (.areturn, 1) := by decide +kernel
theorem own_ef_own_lofA3 (m : MethodId) (xc : Addr) : entryFrame m #[(.ref xc)] 2 = mkF m 0 #[.val (.ref xc), .unset] [] := by first | (simp [entryFrame, mkF, argsToLocals, Value.category]; done) | rfl
def Q_own_lofA3 (Z : State) (xc : Addr) (xk : ClassId) (x0 : Addr) (x1 : Addr) (x2 : Addr) (h0 : Heap) (n0 : Nat) (v : Option Value) (h : Heap) (L : List Loc) : Prop := Fr n0 L ∧ Keep h0 h [] ∧ ∃ (r : Addr), ∃ (re : Addr), ∃ (rk : ClassId), v = some (.ref r) ∧ Exa Z h r "java/util/ImmutableCollections$ListN" ∧ Fld Z h r "java/util/ImmutableCollections$ListN" "elements" "[Ljava/lang/Object;" (.ref re) ∧ Arv Z h re rk (.object "java/lang/Object") (3 : Int32) [(.ref x0), (.ref x1), (.ref x2)] .null ∧ h0.size ≤ r ∧ h0.size ≤ re
set_option maxRecDepth 65536 in
set_option maxHeartbeats 40000000 in
theorem own_lofA3 (l : Launch) (Z : State) (a0 : Array Value) (hw : ∀ d ∈ tables_1, d.before a0 Z = true) (ws : List Jvm.Cond) (xc : Addr) (xk : ClassId) (x0 : Addr) (x1 : Addr) (x2 : Addr) (h0 : Heap) (n0 : Nat) (O0 : Old Z n0 h0) (P0 : Arv Z h0 xc xk (.object "java/lang/String") (3 : Int32) [(.ref x0), (.ref x1), (.ref x2)] .null) (P1 : Exa Z h0 x0 "java/lang/String") (P2 : Exa Z h0 x1 "java/lang/String") (P3 : Exa Z h0 x2 "java/lang/String") :
    MetFree l (⟨"java/util/List", "of", "([Ljava/lang/Object;)Ljava/util/List;"⟩ : MethodName) (head1 (Jvm.Cond.code (⟨"java/util/List", "of", "([Ljava/lang/Object;)Ljava/util/List;"⟩ : MethodName) jdk_40_method_47_code 2 (some (.object "java/util/List")) :: ws) ({ frames := 6, cells := 2, slots := 5, locals := 77 } : Room)) (fun as_ U_ => as_ = #[(.ref xc)] ∧ Z.Warmed39 U_.vm ∧ U_.heap = h0) (fun _ _ _ _ _ => True) (fun _ U_ o_ U2_ => ∃ v_ L_, o_ = .returned v_ ∧ Q_own_lofA3 Z xc xk x0 x1 x2 h0 n0 v_ U2_.heap L_ ∧ FrameEnd U_ o_ U2_ L_ ({ frames := 6, cells := 2, slots := 5, locals := 77 } : Room).cells ({ frames := 6, cells := 2, slots := 5, locals := 77 } : Room).slots) := by
  refine MetFree.of_bodySF (plainFor_of_name own_pn_java_util_List) hisR ?_
  intro p e s m args below meth c s₁ Bd hml0 hP hK
  obtain ⟨rfl, hZ, hh⟩ := hP
  have hx := Bd.exec
  have hby := Bd.bytes
  have hml : c.maxLocals = 2 := hml0
  have hown : s.vm.findClass "java/util/List" = some m.cls := findClass_of_methodNamed Bd.named
  have hnm := (name_of_methodNamed Bd.named Bd.method).1
  have hlk : meth.locks = false := Bd.notSynchronized
  have hret := Bd.returns
  have X0 : Stand p l e ({ frames := 6, cells := 2, slots := 5, locals := 77 } : Room) s m #[(.ref xc)] below meth c s₁ [] 0 0 := Stand.of_body Bd
  have e0 : s₁.heap = h0 := by rw [← hh, Bd.state]; rfl
  have N0 := Fr.nil n0
  have z0 : Z.heap.size = n0 := O0.1
  have z1 : n0 ≤ h0.size := z0 ▸ O0.2.1
  have K0 : Keep h0 h0 [] := Keep.refl _ _
  show own_Goes p e below (s₁.setTop (entryFrame m #[(.ref xc)] 2)) (own_PostN s (Q_own_lofA3 Z xc xk x0 x1 x2 h0 n0) ({ frames := 6, cells := 2, slots := 5, locals := 77 } : Room).cells ({ frames := 6, cells := 2, slots := 5, locals := 77 } : Room).slots)
  refine own_cast (own_ef_own_lofA3 m xc) ?_
  show own_Goes p e below (s₁.setTop (mkF m 0 #[.val (.ref xc), .unset] [])) _
  have ltP0 : @LT.lt Nat _ xc h0.size := P0.lt
  have ltP1 : @LT.lt Nat _ x0 h0.size := P1.lt
  have ltP2 : @LT.lt Nat _ x1 h0.size := P2.lt
  have ltP3 : @LT.lt Nat _ x2 h0.size := P3.lt
  refine own_go (fun t_ k_ => XS.aloadN X0.here hx rfl (hb hby own_d10_0) rfl rfl k_) ?_
  show own_Goes p e below (s₁.setTop (mkF m 1 #[.val (.ref xc), .unset] [(.ref xc)])) _
  obtain ⟨clu1, Aru1, qu1, Szu1, Ngu1, Hsu1, Gsu1⟩ := id P0
  refine own_go (fun t_ k_ => X0.arraylength hx (by rw [e0]; exact Aru1.1) (State.isArrayOf_alike hZ.alike Aru1.2.1) (g := (mkF m 1 #[.val (.ref xc), .unset] [(.ref xc)])) rfl rfl (hb hby own_d10_1) _ k_) ?_
  rw [len_of Szu1 Ngu1]
  show own_Goes p e below (s₁.setTop (mkF m 2 #[.val (.ref xc), .unset] [(.int (3 : Int32))])) _
  refine own_go (fun t_ k_ => XS.tswOut X0.here hx rfl (pc0 := 2) (pc' := 59) rfl (hb hby own_d10_2) rfl (by decide) (by decide) (by decide) k_) ?_
  show own_Goes p e below (s₁.setTop (mkF m 59 #[.val (.ref xc), .unset] [])) _
  refine own_go (fun t_ k_ => XS.aloadN X0.here hx rfl (hb hby own_d10_59) rfl rfl k_) ?_
  show own_Goes p e below (s₁.setTop (mkF m 60 #[.val (.ref xc), .unset] [(.ref xc)])) _
  obtain ⟨_, _, ⟨T2, L2, k2, n2⟩, -, X2, ⟨Lc2, hQ2, l2, y2, z2⟩, st2⟩ := Jvm.LawKit.callS X0 hx (y := own_m17) hown (mvT hZ (hw _ (List.mem_of_getElem? (i := 83) rfl))) (mvT hZ (hw _ (List.mem_of_getElem? (i := 84) rfl))) (mvT hZ (hw _ (List.mem_of_getElem? (i := 46) rfl))) (mvT hZ (hw _ (List.mem_of_getElem? (i := 85) rfl))) (by decide) (backOf (W := 0) (own_lfa l Z a0 hw [] xc xk x0 x1 x2 h0 n0 O0 P0 P1 P2 P3) hZ (hw _ (List.mem_of_getElem? (i := 85) rfl)) (hw _ (List.mem_of_getElem? (i := 46) rfl)) (by decide) (by decide)) (g := (mkF m 60 #[.val (.ref xc), .unset] [(.ref xc)])) rfl (by rw [hml]; rfl) (argsL := [(.ref xc)]) (rest := []) (lenOf own_pd_16 rfl) rfl (by show 2 * 0 + _ ≤ _; exact Nat.le_of_eq rfl) (hb hby own_d10_60) (fun _ _ => ⟨rfl, e0, (by decide : 0 + 2 ≤ _), (by decide : 0 + 5 ≤ _)⟩)
  dsimp only [Pt.U, Pt.locs, Pt.cells, Pt.slots] at X2 l2 y2 z2 st2 hQ2
  subst l2 y2 z2
  obtain ⟨h2, e2⟩ : ∃ z, T2.heap = z := ⟨_, rfl⟩
  rw [e2] at hQ2
  obtain ⟨Nc2, Kc2, r_2, re_2, rk_2, rfl, c2_0, c2_1, c2_2, c2_3, c2_4⟩ := hQ2
  have N2 := Fr.app N0 Nc2
  have O3 := O0.keep Kc2 all0
  have sz4 : h0.size ≤ h2.size := Kc2.1
  have K5 := Keep.trans K0 Kc2 all0
  have ltc2_0 : @LT.lt Nat _ r_2 h2.size := c2_0.lt
  have ltc2_2 : @LT.lt Nat _ re_2 h2.size := c2_2.lt
  refine own_go st2 ?_
  show own_Goes p e below (T2.setTop (mkF m 63 #[.val (.ref xc), .unset] [(.ref r_2)])) _
  refine own_endN X2 (v := (some (.ref r_2))) (fun h => by rw [hret] at h; cases h) hlk (by decide) (by decide) ?_ (fun fs hr => retOut X2 hx hret rfl (Or.inr (Or.inr (Or.inr (Or.inr ⟨rfl, rfl, rfl⟩)))) (hb hby own_d10_63) hr)
  show Q_own_lofA3 Z xc xk x0 x1 x2 h0 n0 _ T2.heap _
  rw [e2]
  exact ⟨N2, K5, r_2, re_2, rk_2, rfl, c2_0, c2_1, c2_2, (show h0.size ≤ r_2 by first | assumption | omega | decide), (show h0.size ≤ re_2 by first | assumption | omega | decide)⟩
theorem own_d11_0 : decode prog_16_method_1_code 0 = .ok (.aload_n 0, 1) := by decide +kernel
theorem own_d11_1 : decode prog_16_method_1_code 1 = .ok (.invokespecial 1, 3) := by decide +kernel
theorem own_d11_4 : decode prog_16_method_1_code 4 = .ok (.aload_n 0, 1) := by decide +kernel
theorem own_d11_5 : decode prog_16_method_1_code 5 = .ok (.aload_n 1, 1) := by decide +kernel
theorem own_d11_6 : decode prog_16_method_1_code 6 = .ok (.putfield 7, 3) := by decide +kernel
theorem own_d11_9 : decode prog_16_method_1_code 9 = .ok (.aload_n 0, 1) := by decide +kernel
theorem own_d11_10 : decode prog_16_method_1_code 10 = .ok (.aload_n 2, 1) := by decide +kernel
theorem own_d11_11 : decode prog_16_method_1_code 11 = .ok (.putfield 13, 3) := by decide +kernel
theorem own_d11_14 : decode prog_16_method_1_code 14 = .ok (.return_, 1) := by decide +kernel
theorem own_pn_com_example_saasy_saasy_ledger_SchemaStep : plainName "com/example/saasy/saasy/ledger/SchemaStep" = true := by first | (simp [plainName, overriddenIn]; done) | decide +kernel
theorem own_ef_own_ssInit (m : MethodId) (xa : Addr) (x1 : Addr) (x2 : Addr) : entryFrame m #[(.ref xa), (.ref x1), (.ref x2)] 3 = mkF m 0 #[.val (.ref xa), .val (.ref x1), .val (.ref x2)] [] := by first | (simp [entryFrame, mkF, argsToLocals, Value.category]; done) | rfl
def Q_own_ssInit (Z : State) (xa : Addr) (x1 : Addr) (x2 : Addr) (h0 : Heap) (n0 : Nat) (v : Option Value) (h : Heap) (L : List Loc) : Prop := Fr n0 L ∧ Keep h0 h [xa] ∧ v = none ∧ Fld Z h xa "com/example/saasy/saasy/ledger/SchemaStep" "rewritten" "Ljava/util/List;" (.ref x1) ∧ Fld Z h xa "com/example/saasy/saasy/ledger/SchemaStep" "statements" "Ljava/util/List;" (.ref x2)
set_option maxRecDepth 65536 in
set_option maxHeartbeats 40000000 in
theorem own_ssInit (l : Launch) (Z : State) (a0 : Array Value) (hw : ∀ d ∈ tables_1, d.before a0 Z = true) (ws : List Jvm.Cond) (xa : Addr) (x1 : Addr) (x2 : Addr) (h0 : Heap) (n0 : Nat) (O0 : Old Z n0 h0) (P0 : Exa Z h0 xa "com/example/saasy/saasy/ledger/SchemaStep") (P1 : Fld Z h0 xa "com/example/saasy/saasy/ledger/SchemaStep" "rewritten" "Ljava/util/List;" .null) (P2 : Fld Z h0 xa "com/example/saasy/saasy/ledger/SchemaStep" "statements" "Ljava/util/List;" .null) (P3 : n0 ≤ xa) :
    MetFree l (⟨"com/example/saasy/saasy/ledger/SchemaStep", "<init>", "(Ljava/util/List;Ljava/util/List;)V"⟩ : MethodName) (head1 (Jvm.Cond.code (⟨"com/example/saasy/saasy/ledger/SchemaStep", "<init>", "(Ljava/util/List;Ljava/util/List;)V"⟩ : MethodName) prog_16_method_1_code 3 none :: ws) ({ frames := 1, cells := 0, slots := 0, locals := 12 } : Room)) (fun as_ U_ => as_ = #[(.ref xa), (.ref x1), (.ref x2)] ∧ Z.Warmed39 U_.vm ∧ U_.heap = h0) (fun _ _ _ _ _ => True) (fun _ U_ o_ U2_ => ∃ v_ L_, o_ = .returned v_ ∧ Q_own_ssInit Z xa x1 x2 h0 n0 v_ U2_.heap L_ ∧ FrameEnd U_ o_ U2_ L_ ({ frames := 1, cells := 0, slots := 0, locals := 12 } : Room).cells ({ frames := 1, cells := 0, slots := 0, locals := 12 } : Room).slots) := by
  refine MetFree.of_bodySF (plainFor_of_name own_pn_com_example_saasy_saasy_ledger_SchemaStep) hisR ?_
  intro p e s m args below meth c s₁ Bd hml0 hP hK
  obtain ⟨rfl, hZ, hh⟩ := hP
  have hx := Bd.exec
  have hby := Bd.bytes
  have hml : c.maxLocals = 3 := hml0
  have hown : s.vm.findClass "com/example/saasy/saasy/ledger/SchemaStep" = some m.cls := findClass_of_methodNamed Bd.named
  have hnm := (name_of_methodNamed Bd.named Bd.method).1
  have hlk : meth.locks = false := Bd.notSynchronized
  have hret := Bd.returns
  have X0 : Stand p l e ({ frames := 1, cells := 0, slots := 0, locals := 12 } : Room) s m #[(.ref xa), (.ref x1), (.ref x2)] below meth c s₁ [] 0 0 := Stand.of_body Bd
  have e0 : s₁.heap = h0 := by rw [← hh, Bd.state]; rfl
  have N0 := Fr.nil n0
  have z0 : Z.heap.size = n0 := O0.1
  have z1 : n0 ≤ h0.size := z0 ▸ O0.2.1
  have K0 : Keep h0 h0 [xa] := Keep.refl _ _
  show own_Goes p e below (s₁.setTop (entryFrame m #[(.ref xa), (.ref x1), (.ref x2)] 3)) (own_PostN s (Q_own_ssInit Z xa x1 x2 h0 n0) ({ frames := 1, cells := 0, slots := 0, locals := 12 } : Room).cells ({ frames := 1, cells := 0, slots := 0, locals := 12 } : Room).slots)
  refine own_cast (own_ef_own_ssInit m xa x1 x2) ?_
  show own_Goes p e below (s₁.setTop (mkF m 0 #[.val (.ref xa), .val (.ref x1), .val (.ref x2)] [])) _
  have ltP0 : @LT.lt Nat _ xa h0.size := P0.lt
  refine own_go (fun t_ k_ => XS.aloadN X0.here hx rfl (hb hby own_d11_0) rfl rfl k_) ?_
  show own_Goes p e below (s₁.setTop (mkF m 1 #[.val (.ref xa), .val (.ref x1), .val (.ref x2)] [(.ref xa)])) _
  obtain ⟨T1, X1, e1, st1⟩ := initO X0 hx hZ hown (hw _ (List.mem_of_getElem? (i := 53) rfl)) (hw _ (List.mem_of_getElem? (i := 16) rfl)) (hw _ (List.mem_of_getElem? (i := 17) rfl)) e0 (g := (mkF m 1 #[.val (.ref xa), .val (.ref x1), .val (.ref x2)] [(.ref xa)])) rfl (by rw [hml]; rfl) rfl (hb hby own_d11_1) (by decide) (W := 0) (by show 2 * 0 + _ ≤ _; exact Nat.le_of_eq rfl) (by decide)
  refine own_go st1 ?_
  show own_Goes p e below (T1.setTop (mkF m 4 #[.val (.ref xa), .val (.ref x1), .val (.ref x2)] [])) _
  refine own_go (fun t_ k_ => XS.aloadN X1.here hx rfl (hb hby own_d11_4) rfl rfl k_) ?_
  show own_Goes p e below (T1.setTop (mkF m 5 #[.val (.ref xa), .val (.ref x1), .val (.ref x2)] [(.ref xa)])) _
  refine own_go (fun t_ k_ => XS.aloadN X1.here hx rfl (hb hby own_d11_5) rfl rfl k_) ?_
  show own_Goes p e below (T1.setTop (mkF m 6 #[.val (.ref xa), .val (.ref x1), .val (.ref x2)] [(.ref x1), (.ref xa)])) _
  obtain ⟨T2, h2, X2, e2, W2, st2⟩ := putF X1 hx hZ hown (host := "") (Or.inl (hw _ (List.mem_of_getElem? (i := 54) rfl))) Via.refl e1 P1 P0 (Or.inr ⟨(hw _ (List.mem_of_getElem? (i := 55) rfl)), rfl, hnm⟩) (hw _ (List.mem_of_getElem? (i := 40) rfl)) (ty := (.object "java/util/List")) (by decide) rfl rfl (g := (mkF m 6 #[.val (.ref xa), .val (.ref x1), .val (.ref x2)] [(.ref x1), (.ref xa)])) rfl rfl (hb hby own_d11_6)
  refine own_go st2 ?_
  have O3 := O0.wr W2 (show n0 ≤ xa by omega)
  have sz4 : h2.size = h0.size := Wr.size W2
  have K5 := K0.wr W2 (Or.inl (List.mem_of_getElem? (i := 0) rfl))
  have N2 := Fr.snoc X2 N0 (show n0 ≤ xa by omega)
  have Fw2 := P1.same W2
  show own_Goes p e below (T2.setTop (mkF m 9 #[.val (.ref xa), .val (.ref x1), .val (.ref x2)] [])) _
  refine own_go (fun t_ k_ => XS.aloadN X2.here hx rfl (hb hby own_d11_9) rfl rfl k_) ?_
  show own_Goes p e below (T2.setTop (mkF m 10 #[.val (.ref xa), .val (.ref x1), .val (.ref x2)] [(.ref xa)])) _
  refine own_go (fun t_ k_ => XS.aloadN X2.here hx rfl (hb hby own_d11_10) rfl rfl k_) ?_
  show own_Goes p e below (T2.setTop (mkF m 11 #[.val (.ref xa), .val (.ref x1), .val (.ref x2)] [(.ref x2), (.ref xa)])) _
  have f6 := (P2.other W2 (Or.inr (slot_ne (Or.inr (hw _ (List.mem_of_getElem? (i := 57) rfl))) (Or.inr (hw _ (List.mem_of_getElem? (i := 55) rfl))) (by decide) (t := (.object "java/util/List")) (t' := (.object "java/util/List")) (by decide) (by decide))))
  have f7 := (P0.wr W2)
  obtain ⟨T8, h8, X8, e8, W8, st8⟩ := putF X2 hx hZ hown (host := "") (Or.inl (hw _ (List.mem_of_getElem? (i := 56) rfl))) Via.refl e2 f6 f7 (Or.inr ⟨(hw _ (List.mem_of_getElem? (i := 57) rfl)), rfl, hnm⟩) (hw _ (List.mem_of_getElem? (i := 40) rfl)) (ty := (.object "java/util/List")) (by decide) rfl rfl (g := (mkF m 11 #[.val (.ref xa), .val (.ref x1), .val (.ref x2)] [(.ref x2), (.ref xa)])) rfl rfl (hb hby own_d11_11)
  refine own_go st8 ?_
  have O9 := O3.wr W8 (show n0 ≤ xa by omega)
  have sz10 : h8.size = h2.size := Wr.size W8
  have K11 := K5.wr W8 (Or.inl (List.mem_of_getElem? (i := 0) rfl))
  have N8 := Fr.snoc X8 N2 (show n0 ≤ xa by omega)
  have Fw8 := f6.same W8
  show own_Goes p e below (T8.setTop (mkF m 14 #[.val (.ref xa), .val (.ref x1), .val (.ref x2)] [])) _
  refine own_endN X8 (v := none) (fun _ => rfl) hlk (by decide) (by decide) ?_ (fun fs hr => X8.returnOut hx hret (hb hby own_d11_14) hr)
  show Q_own_ssInit Z xa x1 x2 h0 n0 _ T8.heap _
  rw [e8]
  have f12 := (Fw2.other W8 (Or.inr (slot_ne (Or.inr (hw _ (List.mem_of_getElem? (i := 55) rfl))) (Or.inr (hw _ (List.mem_of_getElem? (i := 57) rfl))) (by decide) (t := (.object "java/util/List")) (t' := (.object "java/util/List")) (by decide) (by decide))))
  exact ⟨N8, K11, rfl, f12, Fw8⟩
theorem own_d8_0 : decode prog_16_method_2_code 0 = .ok (.new 8, 3) := by decide +kernel
theorem own_d8_3 : decode prog_16_method_2_code 3 = .ok (.dup, 1) := by decide +kernel
theorem own_d8_4 : decode prog_16_method_2_code 4 = .ok (.invokestatic 16, 3) := by decide +kernel
theorem own_pd_18 : parseMethodDescriptor "()Ljava/util/List;" = some ⟨[], some (.object "java/util/List")⟩ := by decide +kernel
abbrev own_m19 : MethodName := ⟨"java/util/List", "of", "()Ljava/util/List;"⟩
theorem own_d8_7 : decode prog_16_method_2_code 7 = .ok (.aload_n 0, 1) := by decide +kernel
theorem own_d8_8 : decode prog_16_method_2_code 8 = .ok (.invokestatic 22, 3) := by decide +kernel
abbrev own_m20 : MethodName := ⟨"java/util/List", "of", "([Ljava/lang/Object;)Ljava/util/List;"⟩
theorem own_d8_11 : decode prog_16_method_2_code 11 = .ok (.invokespecial 25, 3) := by decide +kernel
theorem own_pd_21 : parseMethodDescriptor "(Ljava/util/List;Ljava/util/List;)V" = some ⟨[(.object "java/util/List"), (.object "java/util/List")], none⟩ := by decide +kernel
abbrev own_m22 : MethodName := ⟨"com/example/saasy/saasy/ledger/SchemaStep", "<init>", "(Ljava/util/List;Ljava/util/List;)V"⟩
theorem own_d8_14 : decode prog_16_method_2_code 14 = .ok (.areturn, 1) := by decide +kernel
theorem own_ef_own_of0 (m : MethodId) (xc : Addr) : entryFrame m #[(.ref xc)] 1 = mkF m 0 #[.val (.ref xc)] [] := by first | (simp [entryFrame, mkF, argsToLocals, Value.category]; done) | rfl
def Q_own_of0 (Z : State) (xc : Addr) (xk : ClassId) (gz : Int32) (gwE : Addr) (gwO : Addr) (gwA : Addr) (gk : ClassId) (h0 : Heap) (n0 : Nat) (v : Option Value) (h : Heap) (L : List Loc) : Prop := Fr n0 L ∧ Keep h0 h [] ∧ ∃ (r : Addr), v = some (.ref r) ∧ Exa Z h r "com/example/saasy/saasy/ledger/SchemaStep" ∧ Fld Z h r "com/example/saasy/saasy/ledger/SchemaStep" "rewritten" "Ljava/util/List;" (.ref gwE) ∧ Fld Z h r "com/example/saasy/saasy/ledger/SchemaStep" "statements" "Ljava/util/List;" (.ref gwE) ∧ h0.size ≤ r
set_option maxRecDepth 65536 in
set_option maxHeartbeats 40000000 in
theorem own_of0 (l : Launch) (Z : State) (a0 : Array Value) (hw : ∀ d ∈ tables_1, d.before a0 Z = true) (ws : List Jvm.Cond) (xc : Addr) (xk : ClassId) (h0 : Heap) (n0 : Nat) (O0 : Old Z n0 h0) (gz : Int32) (gwE : Addr) (gwO : Addr) (gwA : Addr) (gk : ClassId) (G : GG Z gz gwE gwO gwA gk) (P0 : Arv Z h0 xc xk (.object "java/lang/String") (0 : Int32) [] .null) :
    MetFree l (⟨"com/example/saasy/saasy/ledger/SchemaStep", "of", "([Ljava/lang/String;)Lcom/example/saasy/saasy/ledger/SchemaStep;"⟩ : MethodName) (head1 (Jvm.Cond.code (⟨"com/example/saasy/saasy/ledger/SchemaStep", "of", "([Ljava/lang/String;)Lcom/example/saasy/saasy/ledger/SchemaStep;"⟩ : MethodName) prog_16_method_2_code 1 (some (.object "com/example/saasy/saasy/ledger/SchemaStep")) :: ws) ({ frames := 2, cells := 1, slots := 2, locals := 27 } : Room)) (fun as_ U_ => as_ = #[(.ref xc)] ∧ Z.Warmed39 U_.vm ∧ U_.heap = h0) (fun _ _ _ _ _ => True) (fun _ U_ o_ U2_ => ∃ v_ L_, o_ = .returned v_ ∧ Q_own_of0 Z xc xk gz gwE gwO gwA gk h0 n0 v_ U2_.heap L_ ∧ FrameEnd U_ o_ U2_ L_ ({ frames := 2, cells := 1, slots := 2, locals := 27 } : Room).cells ({ frames := 2, cells := 1, slots := 2, locals := 27 } : Room).slots) := by
  refine MetFree.of_bodySF (plainFor_of_name own_pn_com_example_saasy_saasy_ledger_SchemaStep) hisR ?_
  intro p e s m args below meth c s₁ Bd hml0 hP hK
  obtain ⟨rfl, hZ, hh⟩ := hP
  have hx := Bd.exec
  have hby := Bd.bytes
  have hml : c.maxLocals = 1 := hml0
  have hown : s.vm.findClass "com/example/saasy/saasy/ledger/SchemaStep" = some m.cls := findClass_of_methodNamed Bd.named
  have hnm := (name_of_methodNamed Bd.named Bd.method).1
  have hlk : meth.locks = false := Bd.notSynchronized
  have hret := Bd.returns
  have X0 : Stand p l e ({ frames := 2, cells := 1, slots := 2, locals := 27 } : Room) s m #[(.ref xc)] below meth c s₁ [] 0 0 := Stand.of_body Bd
  have e0 : s₁.heap = h0 := by rw [← hh, Bd.state]; rfl
  have N0 := Fr.nil n0
  have z0 : Z.heap.size = n0 := O0.1
  have z1 : n0 ≤ h0.size := z0 ▸ O0.2.1
  have K0 : Keep h0 h0 [] := Keep.refl _ _
  show own_Goes p e below (s₁.setTop (entryFrame m #[(.ref xc)] 1)) (own_PostN s (Q_own_of0 Z xc xk gz gwE gwO gwA gk h0 n0) ({ frames := 2, cells := 1, slots := 2, locals := 27 } : Room).cells ({ frames := 2, cells := 1, slots := 2, locals := 27 } : Room).slots)
  refine own_cast (own_ef_own_of0 m xc) ?_
  show own_Goes p e below (s₁.setTop (mkF m 0 #[.val (.ref xc)] [])) _
  obtain ⟨G0, G1, G2, G3, G4, G5, G6, G7⟩ := id G
  have ltG3 : @LT.lt Nat _ gwE Z.heap.size := G3.lt
  have ltG5 : @LT.lt Nat _ gwO Z.heap.size := G5.lt
  have ltG7 : @LT.lt Nat _ gwA Z.heap.size := G7.lt
  have ltP0 : @LT.lt Nat _ xc h0.size := P0.lt
  obtain ⟨T1, h1, X1, e1, E1, A1, D1, -, st1⟩ := newO X0 hx hZ hown (hw _ (List.mem_of_getElem? (i := 39) rfl)) (hw _ (List.mem_of_getElem? (i := 40) rfl)) (hw _ (List.mem_of_getElem? (i := 37) rfl)) e0 (g := (mkF m 0 #[.val (.ref xc)] [])) rfl (hb hby own_d8_0) (by decide) (by decide)
  obtain ⟨b1, g1⟩ : ∃ z, z = h0.size := ⟨_, rfl⟩
  rw [← g1] at A1 D1 st1
  refine own_go st1 ?_
  have O2 := O0.ext E1
  have sz3 : h0.size ≤ h1.size := E1.1
  have K4 := K0.ext E1
  have l1 : @LT.lt Nat _ b1 h1.size := A1.lt
  have F1_rewritten : Fld Z h1 b1 "com/example/saasy/saasy/ledger/SchemaStep" "rewritten" "Ljava/util/List;" .null := D1 (Or.inr (hw _ (List.mem_of_getElem? (i := 55) rfl))) (ty := (.object "java/util/List")) (by decide)
  have F1_statements : Fld Z h1 b1 "com/example/saasy/saasy/ledger/SchemaStep" "statements" "Ljava/util/List;" .null := D1 (Or.inr (hw _ (List.mem_of_getElem? (i := 57) rfl))) (ty := (.object "java/util/List")) (by decide)
  show own_Goes p e below (T1.setTop (mkF m 3 #[.val (.ref xc)] [(.ref b1)])) _
  refine own_go (fun t_ k_ => XS.dup X1.here hx rfl (hb hby own_d8_3) rfl rfl k_) ?_
  show own_Goes p e below (T1.setTop (mkF m 4 #[.val (.ref xc)] [(.ref b1), (.ref b1)])) _
  obtain ⟨_, _, ⟨T5, L5, k5, n5⟩, -, X5, ⟨Lc5, hQ5, l5, y5, z5⟩, st5⟩ := Jvm.LawKit.callS X1 hx (y := own_m19) hown (mvT hZ (hw _ (List.mem_of_getElem? (i := 41) rfl))) (mvT hZ (hw _ (List.mem_of_getElem? (i := 42) rfl))) (mvT hZ (hw _ (List.mem_of_getElem? (i := 43) rfl))) (mvT hZ (hw _ (List.mem_of_getElem? (i := 44) rfl))) (by decide) (backOf (W := 2) (own_lof0 l Z a0 hw []  h1 n0 O2 gz gwE gwO gwA gk G) hZ (hw _ (List.mem_of_getElem? (i := 44) rfl)) (hw _ (List.mem_of_getElem? (i := 43) rfl)) (by decide) (by decide)) (g := (mkF m 4 #[.val (.ref xc)] [(.ref b1), (.ref b1)])) rfl (by rw [hml]; rfl) (argsL := []) (rest := [(.ref b1), (.ref b1)]) (lenOf own_pd_18 rfl) rfl (by show 2 * 0 + _ ≤ _; exact Nat.le_of_eq rfl) (hb hby own_d8_4) (fun _ _ => ⟨rfl, e1, (by decide : 1 + 0 ≤ _), (by decide : 2 + 0 ≤ _)⟩)
  dsimp only [Pt.U, Pt.locs, Pt.cells, Pt.slots] at X5 l5 y5 z5 st5 hQ5
  subst l5 y5 z5
  obtain ⟨Nc5, e5, rfl⟩ := hQ5
  have N5 := Fr.app N0 Nc5
  refine own_go st5 ?_
  show own_Goes p e below (T5.setTop (mkF m 7 #[.val (.ref xc)] [(.ref gwE), (.ref b1), (.ref b1)])) _
  refine own_go (fun t_ k_ => XS.aloadN X5.here hx rfl (hb hby own_d8_7) rfl rfl k_) ?_
  show own_Goes p e below (T5.setTop (mkF m 8 #[.val (.ref xc)] [(.ref xc), (.ref gwE), (.ref b1), (.ref b1)])) _
  have f6 := (P0.ext E1)
  obtain ⟨_, _, ⟨T7, L7, k7, n7⟩, -, X7, ⟨Lc7, hQ7, l7, y7, z7⟩, st7⟩ := Jvm.LawKit.callS X5 hx (y := own_m20) hown (mvT hZ (hw _ (List.mem_of_getElem? (i := 47) rfl))) (mvT hZ (hw _ (List.mem_of_getElem? (i := 48) rfl))) (mvT hZ (hw _ (List.mem_of_getElem? (i := 43) rfl))) (mvT hZ (hw _ (List.mem_of_getElem? (i := 49) rfl))) (by decide) (backOf (W := 3) (own_lofA0 l Z a0 hw [] xc xk h1 n0 O2 gz gwE gwO gwA gk G f6) hZ (hw _ (List.mem_of_getElem? (i := 49) rfl)) (hw _ (List.mem_of_getElem? (i := 43) rfl)) (by decide) (by decide)) (g := (mkF m 8 #[.val (.ref xc)] [(.ref xc), (.ref gwE), (.ref b1), (.ref b1)])) rfl (by rw [hml]; rfl) (argsL := [(.ref xc)]) (rest := [(.ref gwE), (.ref b1), (.ref b1)]) (lenOf own_pd_16 rfl) rfl (by show 2 * 0 + _ ≤ _; exact Nat.le_of_eq rfl) (hb hby own_d8_8) (fun _ _ => ⟨rfl, e5, (by decide : 1 + 0 ≤ _), (by decide : 2 + 0 ≤ _)⟩)
  dsimp only [Pt.U, Pt.locs, Pt.cells, Pt.slots] at X7 l7 y7 z7 st7 hQ7
  subst l7 y7 z7
  obtain ⟨Nc7, e7, rfl⟩ := hQ7
  have N7 := Fr.app N5 Nc7
  refine own_go st7 ?_
  show own_Goes p e below (T7.setTop (mkF m 11 #[.val (.ref xc)] [(.ref gwE), (.ref gwE), (.ref b1), (.ref b1)])) _
  obtain ⟨_, _, ⟨T8, L8, k8, n8⟩, -, X8, ⟨Lc8, hQ8, l8, y8, z8⟩, st8⟩ := X7.specialBack hx (y := own_m22) rfl hown (mvT hZ (hw _ (List.mem_of_getElem? (i := 50) rfl))) (mvT hZ (hw _ (List.mem_of_getElem? (i := 51) rfl))) (mvT hZ (hw _ (List.mem_of_getElem? (i := 52) rfl))) (by decide) (backOf (W := 1) (own_ssInit l Z a0 hw [] b1 gwE gwE h1 n0 O2 A1 F1_rewritten F1_statements (show n0 ≤ b1 by first | assumption | omega | decide)) hZ (hw _ (List.mem_of_getElem? (i := 52) rfl)) (hw _ (List.mem_of_getElem? (i := 37) rfl)) (by decide) (by decide)) (g := (mkF m 11 #[.val (.ref xc)] [(.ref gwE), (.ref gwE), (.ref b1), (.ref b1)])) rfl (by rw [hml]; rfl) (Steps.refl _) (a := b1) (argsL := [(.ref gwE), (.ref gwE)]) (rest := [(.ref b1)]) (lenOf own_pd_21 rfl) rfl (by show 2 * 0 + _ ≤ _; exact Nat.le_of_eq rfl) (hb hby own_d8_11) (fun _ _ => ⟨rfl, e7, (by decide : 1 + 0 ≤ _), (by decide : 2 + 0 ≤ _)⟩)
  dsimp only [Pt.U, Pt.locs, Pt.cells, Pt.slots] at X8 l8 y8 z8 st8 hQ8
  subst l8 y8 z8
  obtain ⟨h8, e8⟩ : ∃ z, T8.heap = z := ⟨_, rfl⟩
  rw [e8] at hQ8
  obtain ⟨Nc8, Kc8, rfl, c8_0, c8_1⟩ := hQ8
  have N8 := Fr.app N7 Nc8
  have O9 := O2.keep Kc8 (allS (show n0 ≤ b1 by omega) all0)
  have sz10 : h1.size ≤ h8.size := Kc8.1
  have K11 := Keep.trans K4 Kc8 (allS (Or.inr (show h0.size ≤ b1 by omega)) all0)
  refine own_goS st8 ?_
  show own_Goes p e below (T8.setTop (mkF m 14 #[.val (.ref xc)] [(.ref b1)])) _
  refine own_endN X8 (v := (some (.ref b1))) (fun h => by rw [hret] at h; cases h) hlk (by decide) (by decide) ?_ (fun fs hr => retOut X8 hx hret rfl (Or.inr (Or.inr (Or.inr (Or.inr ⟨rfl, rfl, rfl⟩)))) (hb hby own_d8_14) hr)
  show Q_own_of0 Z xc xk gz gwE gwO gwA gk h0 n0 _ T8.heap _
  rw [e8]
  have f12 := (A1.keep Kc8)
  exact ⟨N8, K11, b1, rfl, f12, c8_0, c8_1, (show h0.size ≤ b1 by first | assumption | omega | decide)⟩
theorem own_ef_own_of1 (m : MethodId) (xc : Addr) : entryFrame m #[(.ref xc)] 1 = mkF m 0 #[.val (.ref xc)] [] := by first | (simp [entryFrame, mkF, argsToLocals, Value.category]; done) | rfl
def Q_own_of1 (Z : State) (xc : Addr) (xk : ClassId) (x0 : Addr) (gz : Int32) (gwE : Addr) (gwO : Addr) (gwA : Addr) (gk : ClassId) (h0 : Heap) (n0 : Nat) (v : Option Value) (h : Heap) (L : List Loc) : Prop := Fr n0 L ∧ Keep h0 h [] ∧ ∃ (r : Addr), ∃ (rl : Addr), v = some (.ref r) ∧ Exa Z h r "com/example/saasy/saasy/ledger/SchemaStep" ∧ Fld Z h r "com/example/saasy/saasy/ledger/SchemaStep" "rewritten" "Ljava/util/List;" (.ref gwE) ∧ Fld Z h r "com/example/saasy/saasy/ledger/SchemaStep" "statements" "Ljava/util/List;" (.ref rl) ∧ h0.size ≤ r ∧ Exa Z h rl "java/util/ImmutableCollections$List12" ∧ Fld Z h rl "java/util/ImmutableCollections$List12" "e0" "Ljava/lang/Object;" (.ref x0) ∧ Fld Z h rl "java/util/ImmutableCollections$List12" "e1" "Ljava/lang/Object;" (.ref gwO)
set_option maxRecDepth 65536 in
set_option maxHeartbeats 40000000 in
theorem own_of1 (l : Launch) (Z : State) (a0 : Array Value) (hw : ∀ d ∈ tables_1, d.before a0 Z = true) (ws : List Jvm.Cond) (xc : Addr) (xk : ClassId) (x0 : Addr) (h0 : Heap) (n0 : Nat) (O0 : Old Z n0 h0) (gz : Int32) (gwE : Addr) (gwO : Addr) (gwA : Addr) (gk : ClassId) (G : GG Z gz gwE gwO gwA gk) (P0 : Arv Z h0 xc xk (.object "java/lang/String") (1 : Int32) [(.ref x0)] .null) (P1 : Exa Z h0 x0 "java/lang/String") :
    MetFree l (⟨"com/example/saasy/saasy/ledger/SchemaStep", "of", "([Ljava/lang/String;)Lcom/example/saasy/saasy/ledger/SchemaStep;"⟩ : MethodName) (head1 (Jvm.Cond.code (⟨"com/example/saasy/saasy/ledger/SchemaStep", "of", "([Ljava/lang/String;)Lcom/example/saasy/saasy/ledger/SchemaStep;"⟩ : MethodName) prog_16_method_2_code 1 (some (.object "com/example/saasy/saasy/ledger/SchemaStep")) :: ws) ({ frames := 6, cells := 2, slots := 4, locals := 78 } : Room)) (fun as_ U_ => as_ = #[(.ref xc)] ∧ Z.Warmed39 U_.vm ∧ U_.heap = h0) (fun _ _ _ _ _ => True) (fun _ U_ o_ U2_ => ∃ v_ L_, o_ = .returned v_ ∧ Q_own_of1 Z xc xk x0 gz gwE gwO gwA gk h0 n0 v_ U2_.heap L_ ∧ FrameEnd U_ o_ U2_ L_ ({ frames := 6, cells := 2, slots := 4, locals := 78 } : Room).cells ({ frames := 6, cells := 2, slots := 4, locals := 78 } : Room).slots) := by
  refine MetFree.of_bodySF (plainFor_of_name own_pn_com_example_saasy_saasy_ledger_SchemaStep) hisR ?_
  intro p e s m args below meth c s₁ Bd hml0 hP hK
  obtain ⟨rfl, hZ, hh⟩ := hP
  have hx := Bd.exec
  have hby := Bd.bytes
  have hml : c.maxLocals = 1 := hml0
  have hown : s.vm.findClass "com/example/saasy/saasy/ledger/SchemaStep" = some m.cls := findClass_of_methodNamed Bd.named
  have hnm := (name_of_methodNamed Bd.named Bd.method).1
  have hlk : meth.locks = false := Bd.notSynchronized
  have hret := Bd.returns
  have X0 : Stand p l e ({ frames := 6, cells := 2, slots := 4, locals := 78 } : Room) s m #[(.ref xc)] below meth c s₁ [] 0 0 := Stand.of_body Bd
  have e0 : s₁.heap = h0 := by rw [← hh, Bd.state]; rfl
  have N0 := Fr.nil n0
  have z0 : Z.heap.size = n0 := O0.1
  have z1 : n0 ≤ h0.size := z0 ▸ O0.2.1
  have K0 : Keep h0 h0 [] := Keep.refl _ _
  show own_Goes p e below (s₁.setTop (entryFrame m #[(.ref xc)] 1)) (own_PostN s (Q_own_of1 Z xc xk x0 gz gwE gwO gwA gk h0 n0) ({ frames := 6, cells := 2, slots := 4, locals := 78 } : Room).cells ({ frames := 6, cells := 2, slots := 4, locals := 78 } : Room).slots)
  refine own_cast (own_ef_own_of1 m xc) ?_
  show own_Goes p e below (s₁.setTop (mkF m 0 #[.val (.ref xc)] [])) _
  obtain ⟨G0, G1, G2, G3, G4, G5, G6, G7⟩ := id G
  have ltG3 : @LT.lt Nat _ gwE Z.heap.size := G3.lt
  have ltG5 : @LT.lt Nat _ gwO Z.heap.size := G5.lt
  have ltG7 : @LT.lt Nat _ gwA Z.heap.size := G7.lt
  have ltP0 : @LT.lt Nat _ xc h0.size := P0.lt
  have ltP1 : @LT.lt Nat _ x0 h0.size := P1.lt
  obtain ⟨T1, h1, X1, e1, E1, A1, D1, -, st1⟩ := newO X0 hx hZ hown (hw _ (List.mem_of_getElem? (i := 39) rfl)) (hw _ (List.mem_of_getElem? (i := 40) rfl)) (hw _ (List.mem_of_getElem? (i := 37) rfl)) e0 (g := (mkF m 0 #[.val (.ref xc)] [])) rfl (hb hby own_d8_0) (by decide) (by decide)
  obtain ⟨b1, g1⟩ : ∃ z, z = h0.size := ⟨_, rfl⟩
  rw [← g1] at A1 D1 st1
  refine own_go st1 ?_
  have O2 := O0.ext E1
  have sz3 : h0.size ≤ h1.size := E1.1
  have K4 := K0.ext E1
  have l1 : @LT.lt Nat _ b1 h1.size := A1.lt
  have F1_rewritten : Fld Z h1 b1 "com/example/saasy/saasy/ledger/SchemaStep" "rewritten" "Ljava/util/List;" .null := D1 (Or.inr (hw _ (List.mem_of_getElem? (i := 55) rfl))) (ty := (.object "java/util/List")) (by decide)
  have F1_statements : Fld Z h1 b1 "com/example/saasy/saasy/ledger/SchemaStep" "statements" "Ljava/util/List;" .null := D1 (Or.inr (hw _ (List.mem_of_getElem? (i := 57) rfl))) (ty := (.object "java/util/List")) (by decide)
  show own_Goes p e below (T1.setTop (mkF m 3 #[.val (.ref xc)] [(.ref b1)])) _
  refine own_go (fun t_ k_ => XS.dup X1.here hx rfl (hb hby own_d8_3) rfl rfl k_) ?_
  show own_Goes p e below (T1.setTop (mkF m 4 #[.val (.ref xc)] [(.ref b1), (.ref b1)])) _
  obtain ⟨_, _, ⟨T5, L5, k5, n5⟩, -, X5, ⟨Lc5, hQ5, l5, y5, z5⟩, st5⟩ := Jvm.LawKit.callS X1 hx (y := own_m19) hown (mvT hZ (hw _ (List.mem_of_getElem? (i := 41) rfl))) (mvT hZ (hw _ (List.mem_of_getElem? (i := 42) rfl))) (mvT hZ (hw _ (List.mem_of_getElem? (i := 43) rfl))) (mvT hZ (hw _ (List.mem_of_getElem? (i := 44) rfl))) (by decide) (backOf (W := 2) (own_lof0 l Z a0 hw []  h1 n0 O2 gz gwE gwO gwA gk G) hZ (hw _ (List.mem_of_getElem? (i := 44) rfl)) (hw _ (List.mem_of_getElem? (i := 43) rfl)) (by decide) (by decide)) (g := (mkF m 4 #[.val (.ref xc)] [(.ref b1), (.ref b1)])) rfl (by rw [hml]; rfl) (argsL := []) (rest := [(.ref b1), (.ref b1)]) (lenOf own_pd_18 rfl) rfl (by show 2 * 0 + _ ≤ _; exact Nat.le_of_eq rfl) (hb hby own_d8_4) (fun _ _ => ⟨rfl, e1, (by decide : 1 + 0 ≤ _), (by decide : 2 + 0 ≤ _)⟩)
  dsimp only [Pt.U, Pt.locs, Pt.cells, Pt.slots] at X5 l5 y5 z5 st5 hQ5
  subst l5 y5 z5
  obtain ⟨Nc5, e5, rfl⟩ := hQ5
  have N5 := Fr.app N0 Nc5
  refine own_go st5 ?_
  show own_Goes p e below (T5.setTop (mkF m 7 #[.val (.ref xc)] [(.ref gwE), (.ref b1), (.ref b1)])) _
  refine own_go (fun t_ k_ => XS.aloadN X5.here hx rfl (hb hby own_d8_7) rfl rfl k_) ?_
  show own_Goes p e below (T5.setTop (mkF m 8 #[.val (.ref xc)] [(.ref xc), (.ref gwE), (.ref b1), (.ref b1)])) _
  have f6 := (P0.ext E1)
  have f7 := (P1.ext E1)
  obtain ⟨_, _, ⟨T8, L8, k8, n8⟩, -, X8, ⟨Lc8, hQ8, l8, y8, z8⟩, st8⟩ := Jvm.LawKit.callS X5 hx (y := own_m20) hown (mvT hZ (hw _ (List.mem_of_getElem? (i := 47) rfl))) (mvT hZ (hw _ (List.mem_of_getElem? (i := 48) rfl))) (mvT hZ (hw _ (List.mem_of_getElem? (i := 43) rfl))) (mvT hZ (hw _ (List.mem_of_getElem? (i := 49) rfl))) (by decide) (backOf (W := 3) (own_lofA1 l Z a0 hw [] xc xk x0 h1 n0 O2 gz gwE gwO gwA gk G f6 f7) hZ (hw _ (List.mem_of_getElem? (i := 49) rfl)) (hw _ (List.mem_of_getElem? (i := 43) rfl)) (by decide) (by decide)) (g := (mkF m 8 #[.val (.ref xc)] [(.ref xc), (.ref gwE), (.ref b1), (.ref b1)])) rfl (by rw [hml]; rfl) (argsL := [(.ref xc)]) (rest := [(.ref gwE), (.ref b1), (.ref b1)]) (lenOf own_pd_16 rfl) rfl (by show 2 * 0 + _ ≤ _; exact Nat.le_of_eq rfl) (hb hby own_d8_8) (fun _ _ => ⟨rfl, e5, (by decide : 1 + 1 ≤ _), (by decide : 2 + 2 ≤ _)⟩)
  dsimp only [Pt.U, Pt.locs, Pt.cells, Pt.slots] at X8 l8 y8 z8 st8 hQ8
  subst l8 y8 z8
  obtain ⟨h8, e8⟩ : ∃ z, T8.heap = z := ⟨_, rfl⟩
  rw [e8] at hQ8
  obtain ⟨Nc8, Kc8, r_8, rfl, c8_0, c8_1, c8_2, c8_3⟩ := hQ8
  have N8 := Fr.app N5 Nc8
  have O9 := O2.keep Kc8 all0
  have sz10 : h1.size ≤ h8.size := Kc8.1
  have K11 := Keep.trans K4 Kc8 all0
  have ltc8_0 : @LT.lt Nat _ r_8 h8.size := c8_0.lt
  refine own_go st8 ?_
  show own_Goes p e below (T8.setTop (mkF m 11 #[.val (.ref xc)] [(.ref r_8), (.ref gwE), (.ref b1), (.ref b1)])) _
  have f12 := (A1.keep Kc8)
  have f13 := (F1_rewritten.keep Kc8 nin0)
  have f14 := (F1_statements.keep Kc8 nin0)
  obtain ⟨_, _, ⟨T15, L15, k15, n15⟩, -, X15, ⟨Lc15, hQ15, l15, y15, z15⟩, st15⟩ := X8.specialBack hx (y := own_m22) rfl hown (mvT hZ (hw _ (List.mem_of_getElem? (i := 50) rfl))) (mvT hZ (hw _ (List.mem_of_getElem? (i := 51) rfl))) (mvT hZ (hw _ (List.mem_of_getElem? (i := 52) rfl))) (by decide) (backOf (W := 1) (own_ssInit l Z a0 hw [] b1 gwE r_8 h8 n0 O9 f12 f13 f14 (show n0 ≤ b1 by first | assumption | omega | decide)) hZ (hw _ (List.mem_of_getElem? (i := 52) rfl)) (hw _ (List.mem_of_getElem? (i := 37) rfl)) (by decide) (by decide)) (g := (mkF m 11 #[.val (.ref xc)] [(.ref r_8), (.ref gwE), (.ref b1), (.ref b1)])) rfl (by rw [hml]; rfl) (Steps.refl _) (a := b1) (argsL := [(.ref gwE), (.ref r_8)]) (rest := [(.ref b1)]) (lenOf own_pd_21 rfl) rfl (by show 2 * 0 + _ ≤ _; exact Nat.le_of_eq rfl) (hb hby own_d8_11) (fun _ _ => ⟨rfl, e8, (by decide : 2 + 0 ≤ _), (by decide : 4 + 0 ≤ _)⟩)
  dsimp only [Pt.U, Pt.locs, Pt.cells, Pt.slots] at X15 l15 y15 z15 st15 hQ15
  subst l15 y15 z15
  obtain ⟨h15, e15⟩ : ∃ z, T15.heap = z := ⟨_, rfl⟩
  rw [e15] at hQ15
  obtain ⟨Nc15, Kc15, rfl, c15_0, c15_1⟩ := hQ15
  have N15 := Fr.app N8 Nc15
  have O16 := O9.keep Kc15 (allS (show n0 ≤ b1 by omega) all0)
  have sz17 : h8.size ≤ h15.size := Kc15.1
  have K18 := Keep.trans K11 Kc15 (allS (Or.inr (show h0.size ≤ b1 by omega)) all0)
  refine own_goS st15 ?_
  show own_Goes p e below (T15.setTop (mkF m 14 #[.val (.ref xc)] [(.ref b1)])) _
  refine own_endN X15 (v := (some (.ref b1))) (fun h => by rw [hret] at h; cases h) hlk (by decide) (by decide) ?_ (fun fs hr => retOut X15 hx hret rfl (Or.inr (Or.inr (Or.inr (Or.inr ⟨rfl, rfl, rfl⟩)))) (hb hby own_d8_14) hr)
  show Q_own_of1 Z xc xk x0 gz gwE gwO gwA gk h0 n0 _ T15.heap _
  rw [e15]
  have f19 := (f12.keep Kc15)
  have f20 := (c8_0.keep Kc15)
  have f21 := (c8_1.keep Kc15 (ninS (own_ne (a := r_8) (b := b1) (by omega)) nin0))
  have f22 := (c8_2.keep Kc15 (ninS (own_ne (a := r_8) (b := b1) (by omega)) nin0))
  exact ⟨N15, K18, b1, r_8, rfl, f19, c15_0, c15_1, (show h0.size ≤ b1 by first | assumption | omega | decide), f20, f21, f22⟩
theorem own_ef_own_of2 (m : MethodId) (xc : Addr) : entryFrame m #[(.ref xc)] 1 = mkF m 0 #[.val (.ref xc)] [] := by first | (simp [entryFrame, mkF, argsToLocals, Value.category]; done) | rfl
def Q_own_of2 (Z : State) (xc : Addr) (xk : ClassId) (x0 : Addr) (x1 : Addr) (gz : Int32) (gwE : Addr) (gwO : Addr) (gwA : Addr) (gk : ClassId) (h0 : Heap) (n0 : Nat) (v : Option Value) (h : Heap) (L : List Loc) : Prop := Fr n0 L ∧ Keep h0 h [] ∧ ∃ (r : Addr), ∃ (rl : Addr), v = some (.ref r) ∧ Exa Z h r "com/example/saasy/saasy/ledger/SchemaStep" ∧ Fld Z h r "com/example/saasy/saasy/ledger/SchemaStep" "rewritten" "Ljava/util/List;" (.ref gwE) ∧ Fld Z h r "com/example/saasy/saasy/ledger/SchemaStep" "statements" "Ljava/util/List;" (.ref rl) ∧ h0.size ≤ r ∧ Exa Z h rl "java/util/ImmutableCollections$List12" ∧ Fld Z h rl "java/util/ImmutableCollections$List12" "e0" "Ljava/lang/Object;" (.ref x0) ∧ Fld Z h rl "java/util/ImmutableCollections$List12" "e1" "Ljava/lang/Object;" (.ref x1)
set_option maxRecDepth 65536 in
set_option maxHeartbeats 40000000 in
theorem own_of2 (l : Launch) (Z : State) (a0 : Array Value) (hw : ∀ d ∈ tables_1, d.before a0 Z = true) (ws : List Jvm.Cond) (xc : Addr) (xk : ClassId) (x0 : Addr) (x1 : Addr) (h0 : Heap) (n0 : Nat) (O0 : Old Z n0 h0) (gz : Int32) (gwE : Addr) (gwO : Addr) (gwA : Addr) (gk : ClassId) (G : GG Z gz gwE gwO gwA gk) (P0 : Arv Z h0 xc xk (.object "java/lang/String") (2 : Int32) [(.ref x0), (.ref x1)] .null) (P1 : Exa Z h0 x0 "java/lang/String") (P2 : Exa Z h0 x1 "java/lang/String") :
    MetFree l (⟨"com/example/saasy/saasy/ledger/SchemaStep", "of", "([Ljava/lang/String;)Lcom/example/saasy/saasy/ledger/SchemaStep;"⟩ : MethodName) (head1 (Jvm.Cond.code (⟨"com/example/saasy/saasy/ledger/SchemaStep", "of", "([Ljava/lang/String;)Lcom/example/saasy/saasy/ledger/SchemaStep;"⟩ : MethodName) prog_16_method_2_code 1 (some (.object "com/example/saasy/saasy/ledger/SchemaStep")) :: ws) ({ frames := 6, cells := 2, slots := 4, locals := 79 } : Room)) (fun as_ U_ => as_ = #[(.ref xc)] ∧ Z.Warmed39 U_.vm ∧ U_.heap = h0) (fun _ _ _ _ _ => True) (fun _ U_ o_ U2_ => ∃ v_ L_, o_ = .returned v_ ∧ Q_own_of2 Z xc xk x0 x1 gz gwE gwO gwA gk h0 n0 v_ U2_.heap L_ ∧ FrameEnd U_ o_ U2_ L_ ({ frames := 6, cells := 2, slots := 4, locals := 79 } : Room).cells ({ frames := 6, cells := 2, slots := 4, locals := 79 } : Room).slots) := by
  refine MetFree.of_bodySF (plainFor_of_name own_pn_com_example_saasy_saasy_ledger_SchemaStep) hisR ?_
  intro p e s m args below meth c s₁ Bd hml0 hP hK
  obtain ⟨rfl, hZ, hh⟩ := hP
  have hx := Bd.exec
  have hby := Bd.bytes
  have hml : c.maxLocals = 1 := hml0
  have hown : s.vm.findClass "com/example/saasy/saasy/ledger/SchemaStep" = some m.cls := findClass_of_methodNamed Bd.named
  have hnm := (name_of_methodNamed Bd.named Bd.method).1
  have hlk : meth.locks = false := Bd.notSynchronized
  have hret := Bd.returns
  have X0 : Stand p l e ({ frames := 6, cells := 2, slots := 4, locals := 79 } : Room) s m #[(.ref xc)] below meth c s₁ [] 0 0 := Stand.of_body Bd
  have e0 : s₁.heap = h0 := by rw [← hh, Bd.state]; rfl
  have N0 := Fr.nil n0
  have z0 : Z.heap.size = n0 := O0.1
  have z1 : n0 ≤ h0.size := z0 ▸ O0.2.1
  have K0 : Keep h0 h0 [] := Keep.refl _ _
  show own_Goes p e below (s₁.setTop (entryFrame m #[(.ref xc)] 1)) (own_PostN s (Q_own_of2 Z xc xk x0 x1 gz gwE gwO gwA gk h0 n0) ({ frames := 6, cells := 2, slots := 4, locals := 79 } : Room).cells ({ frames := 6, cells := 2, slots := 4, locals := 79 } : Room).slots)
  refine own_cast (own_ef_own_of2 m xc) ?_
  show own_Goes p e below (s₁.setTop (mkF m 0 #[.val (.ref xc)] [])) _
  obtain ⟨G0, G1, G2, G3, G4, G5, G6, G7⟩ := id G
  have ltG3 : @LT.lt Nat _ gwE Z.heap.size := G3.lt
  have ltG5 : @LT.lt Nat _ gwO Z.heap.size := G5.lt
  have ltG7 : @LT.lt Nat _ gwA Z.heap.size := G7.lt
  have ltP0 : @LT.lt Nat _ xc h0.size := P0.lt
  have ltP1 : @LT.lt Nat _ x0 h0.size := P1.lt
  have ltP2 : @LT.lt Nat _ x1 h0.size := P2.lt
  obtain ⟨T1, h1, X1, e1, E1, A1, D1, -, st1⟩ := newO X0 hx hZ hown (hw _ (List.mem_of_getElem? (i := 39) rfl)) (hw _ (List.mem_of_getElem? (i := 40) rfl)) (hw _ (List.mem_of_getElem? (i := 37) rfl)) e0 (g := (mkF m 0 #[.val (.ref xc)] [])) rfl (hb hby own_d8_0) (by decide) (by decide)
  obtain ⟨b1, g1⟩ : ∃ z, z = h0.size := ⟨_, rfl⟩
  rw [← g1] at A1 D1 st1
  refine own_go st1 ?_
  have O2 := O0.ext E1
  have sz3 : h0.size ≤ h1.size := E1.1
  have K4 := K0.ext E1
  have l1 : @LT.lt Nat _ b1 h1.size := A1.lt
  have F1_rewritten : Fld Z h1 b1 "com/example/saasy/saasy/ledger/SchemaStep" "rewritten" "Ljava/util/List;" .null := D1 (Or.inr (hw _ (List.mem_of_getElem? (i := 55) rfl))) (ty := (.object "java/util/List")) (by decide)
  have F1_statements : Fld Z h1 b1 "com/example/saasy/saasy/ledger/SchemaStep" "statements" "Ljava/util/List;" .null := D1 (Or.inr (hw _ (List.mem_of_getElem? (i := 57) rfl))) (ty := (.object "java/util/List")) (by decide)
  show own_Goes p e below (T1.setTop (mkF m 3 #[.val (.ref xc)] [(.ref b1)])) _
  refine own_go (fun t_ k_ => XS.dup X1.here hx rfl (hb hby own_d8_3) rfl rfl k_) ?_
  show own_Goes p e below (T1.setTop (mkF m 4 #[.val (.ref xc)] [(.ref b1), (.ref b1)])) _
  obtain ⟨_, _, ⟨T5, L5, k5, n5⟩, -, X5, ⟨Lc5, hQ5, l5, y5, z5⟩, st5⟩ := Jvm.LawKit.callS X1 hx (y := own_m19) hown (mvT hZ (hw _ (List.mem_of_getElem? (i := 41) rfl))) (mvT hZ (hw _ (List.mem_of_getElem? (i := 42) rfl))) (mvT hZ (hw _ (List.mem_of_getElem? (i := 43) rfl))) (mvT hZ (hw _ (List.mem_of_getElem? (i := 44) rfl))) (by decide) (backOf (W := 2) (own_lof0 l Z a0 hw []  h1 n0 O2 gz gwE gwO gwA gk G) hZ (hw _ (List.mem_of_getElem? (i := 44) rfl)) (hw _ (List.mem_of_getElem? (i := 43) rfl)) (by decide) (by decide)) (g := (mkF m 4 #[.val (.ref xc)] [(.ref b1), (.ref b1)])) rfl (by rw [hml]; rfl) (argsL := []) (rest := [(.ref b1), (.ref b1)]) (lenOf own_pd_18 rfl) rfl (by show 2 * 0 + _ ≤ _; exact Nat.le_of_eq rfl) (hb hby own_d8_4) (fun _ _ => ⟨rfl, e1, (by decide : 1 + 0 ≤ _), (by decide : 2 + 0 ≤ _)⟩)
  dsimp only [Pt.U, Pt.locs, Pt.cells, Pt.slots] at X5 l5 y5 z5 st5 hQ5
  subst l5 y5 z5
  obtain ⟨Nc5, e5, rfl⟩ := hQ5
  have N5 := Fr.app N0 Nc5
  refine own_go st5 ?_
  show own_Goes p e below (T5.setTop (mkF m 7 #[.val (.ref xc)] [(.ref gwE), (.ref b1), (.ref b1)])) _
  refine own_go (fun t_ k_ => XS.aloadN X5.here hx rfl (hb hby own_d8_7) rfl rfl k_) ?_
  show own_Goes p e below (T5.setTop (mkF m 8 #[.val (.ref xc)] [(.ref xc), (.ref gwE), (.ref b1), (.ref b1)])) _
  have f6 := (P0.ext E1)
  have f7 := (P1.ext E1)
  have f8 := (P2.ext E1)
  obtain ⟨_, _, ⟨T9, L9, k9, n9⟩, -, X9, ⟨Lc9, hQ9, l9, y9, z9⟩, st9⟩ := Jvm.LawKit.callS X5 hx (y := own_m20) hown (mvT hZ (hw _ (List.mem_of_getElem? (i := 47) rfl))) (mvT hZ (hw _ (List.mem_of_getElem? (i := 48) rfl))) (mvT hZ (hw _ (List.mem_of_getElem? (i := 43) rfl))) (mvT hZ (hw _ (List.mem_of_getElem? (i := 49) rfl))) (by decide) (backOf (W := 3) (own_lofA2 l Z a0 hw [] xc xk x0 x1 h1 n0 O2 f6 f7 f8) hZ (hw _ (List.mem_of_getElem? (i := 49) rfl)) (hw _ (List.mem_of_getElem? (i := 43) rfl)) (by decide) (by decide)) (g := (mkF m 8 #[.val (.ref xc)] [(.ref xc), (.ref gwE), (.ref b1), (.ref b1)])) rfl (by rw [hml]; rfl) (argsL := [(.ref xc)]) (rest := [(.ref gwE), (.ref b1), (.ref b1)]) (lenOf own_pd_16 rfl) rfl (by show 2 * 0 + _ ≤ _; exact Nat.le_of_eq rfl) (hb hby own_d8_8) (fun _ _ => ⟨rfl, e5, (by decide : 1 + 1 ≤ _), (by decide : 2 + 2 ≤ _)⟩)
  dsimp only [Pt.U, Pt.locs, Pt.cells, Pt.slots] at X9 l9 y9 z9 st9 hQ9
  subst l9 y9 z9
  obtain ⟨h9, e9⟩ : ∃ z, T9.heap = z := ⟨_, rfl⟩
  rw [e9] at hQ9
  obtain ⟨Nc9, Kc9, r_9, rfl, c9_0, c9_1, c9_2, c9_3⟩ := hQ9
  have N9 := Fr.app N5 Nc9
  have O10 := O2.keep Kc9 all0
  have sz11 : h1.size ≤ h9.size := Kc9.1
  have K12 := Keep.trans K4 Kc9 all0
  have ltc9_0 : @LT.lt Nat _ r_9 h9.size := c9_0.lt
  refine own_go st9 ?_
  show own_Goes p e below (T9.setTop (mkF m 11 #[.val (.ref xc)] [(.ref r_9), (.ref gwE), (.ref b1), (.ref b1)])) _
  have f13 := (A1.keep Kc9)
  have f14 := (F1_rewritten.keep Kc9 nin0)
  have f15 := (F1_statements.keep Kc9 nin0)
  obtain ⟨_, _, ⟨T16, L16, k16, n16⟩, -, X16, ⟨Lc16, hQ16, l16, y16, z16⟩, st16⟩ := X9.specialBack hx (y := own_m22) rfl hown (mvT hZ (hw _ (List.mem_of_getElem? (i := 50) rfl))) (mvT hZ (hw _ (List.mem_of_getElem? (i := 51) rfl))) (mvT hZ (hw _ (List.mem_of_getElem? (i := 52) rfl))) (by decide) (backOf (W := 1) (own_ssInit l Z a0 hw [] b1 gwE r_9 h9 n0 O10 f13 f14 f15 (show n0 ≤ b1 by first | assumption | omega | decide)) hZ (hw _ (List.mem_of_getElem? (i := 52) rfl)) (hw _ (List.mem_of_getElem? (i := 37) rfl)) (by decide) (by decide)) (g := (mkF m 11 #[.val (.ref xc)] [(.ref r_9), (.ref gwE), (.ref b1), (.ref b1)])) rfl (by rw [hml]; rfl) (Steps.refl _) (a := b1) (argsL := [(.ref gwE), (.ref r_9)]) (rest := [(.ref b1)]) (lenOf own_pd_21 rfl) rfl (by show 2 * 0 + _ ≤ _; exact Nat.le_of_eq rfl) (hb hby own_d8_11) (fun _ _ => ⟨rfl, e9, (by decide : 2 + 0 ≤ _), (by decide : 4 + 0 ≤ _)⟩)
  dsimp only [Pt.U, Pt.locs, Pt.cells, Pt.slots] at X16 l16 y16 z16 st16 hQ16
  subst l16 y16 z16
  obtain ⟨h16, e16⟩ : ∃ z, T16.heap = z := ⟨_, rfl⟩
  rw [e16] at hQ16
  obtain ⟨Nc16, Kc16, rfl, c16_0, c16_1⟩ := hQ16
  have N16 := Fr.app N9 Nc16
  have O17 := O10.keep Kc16 (allS (show n0 ≤ b1 by omega) all0)
  have sz18 : h9.size ≤ h16.size := Kc16.1
  have K19 := Keep.trans K12 Kc16 (allS (Or.inr (show h0.size ≤ b1 by omega)) all0)
  refine own_goS st16 ?_
  show own_Goes p e below (T16.setTop (mkF m 14 #[.val (.ref xc)] [(.ref b1)])) _
  refine own_endN X16 (v := (some (.ref b1))) (fun h => by rw [hret] at h; cases h) hlk (by decide) (by decide) ?_ (fun fs hr => retOut X16 hx hret rfl (Or.inr (Or.inr (Or.inr (Or.inr ⟨rfl, rfl, rfl⟩)))) (hb hby own_d8_14) hr)
  show Q_own_of2 Z xc xk x0 x1 gz gwE gwO gwA gk h0 n0 _ T16.heap _
  rw [e16]
  have f20 := (f13.keep Kc16)
  have f21 := (c9_0.keep Kc16)
  have f22 := (c9_1.keep Kc16 (ninS (own_ne (a := r_9) (b := b1) (by omega)) nin0))
  have f23 := (c9_2.keep Kc16 (ninS (own_ne (a := r_9) (b := b1) (by omega)) nin0))
  exact ⟨N16, K19, b1, r_9, rfl, f20, c16_0, c16_1, (show h0.size ≤ b1 by first | assumption | omega | decide), f21, f22, f23⟩
theorem own_ef_own_of3 (m : MethodId) (xc : Addr) : entryFrame m #[(.ref xc)] 1 = mkF m 0 #[.val (.ref xc)] [] := by first | (simp [entryFrame, mkF, argsToLocals, Value.category]; done) | rfl
def Q_own_of3 (Z : State) (xc : Addr) (xk : ClassId) (x0 : Addr) (x1 : Addr) (x2 : Addr) (gz : Int32) (gwE : Addr) (gwO : Addr) (gwA : Addr) (gk : ClassId) (h0 : Heap) (n0 : Nat) (v : Option Value) (h : Heap) (L : List Loc) : Prop := Fr n0 L ∧ Keep h0 h [] ∧ ∃ (r : Addr), ∃ (rl : Addr), ∃ (re : Addr), ∃ (rk : ClassId), v = some (.ref r) ∧ Exa Z h r "com/example/saasy/saasy/ledger/SchemaStep" ∧ Fld Z h r "com/example/saasy/saasy/ledger/SchemaStep" "rewritten" "Ljava/util/List;" (.ref gwE) ∧ Fld Z h r "com/example/saasy/saasy/ledger/SchemaStep" "statements" "Ljava/util/List;" (.ref rl) ∧ h0.size ≤ r ∧ Exa Z h rl "java/util/ImmutableCollections$ListN" ∧ Fld Z h rl "java/util/ImmutableCollections$ListN" "elements" "[Ljava/lang/Object;" (.ref re) ∧ Arv Z h re rk (.object "java/lang/Object") (3 : Int32) [(.ref x0), (.ref x1), (.ref x2)] .null
set_option maxRecDepth 65536 in
set_option maxHeartbeats 40000000 in
theorem own_of3 (l : Launch) (Z : State) (a0 : Array Value) (hw : ∀ d ∈ tables_1, d.before a0 Z = true) (ws : List Jvm.Cond) (xc : Addr) (xk : ClassId) (x0 : Addr) (x1 : Addr) (x2 : Addr) (h0 : Heap) (n0 : Nat) (O0 : Old Z n0 h0) (gz : Int32) (gwE : Addr) (gwO : Addr) (gwA : Addr) (gk : ClassId) (G : GG Z gz gwE gwO gwA gk) (P0 : Arv Z h0 xc xk (.object "java/lang/String") (3 : Int32) [(.ref x0), (.ref x1), (.ref x2)] .null) (P1 : Exa Z h0 x0 "java/lang/String") (P2 : Exa Z h0 x1 "java/lang/String") (P3 : Exa Z h0 x2 "java/lang/String") :
    MetFree l (⟨"com/example/saasy/saasy/ledger/SchemaStep", "of", "([Ljava/lang/String;)Lcom/example/saasy/saasy/ledger/SchemaStep;"⟩ : MethodName) (head1 (Jvm.Cond.code (⟨"com/example/saasy/saasy/ledger/SchemaStep", "of", "([Ljava/lang/String;)Lcom/example/saasy/saasy/ledger/SchemaStep;"⟩ : MethodName) prog_16_method_2_code 1 (some (.object "com/example/saasy/saasy/ledger/SchemaStep")) :: ws) ({ frames := 7, cells := 3, slots := 7, locals := 93 } : Room)) (fun as_ U_ => as_ = #[(.ref xc)] ∧ Z.Warmed39 U_.vm ∧ U_.heap = h0) (fun _ _ _ _ _ => True) (fun _ U_ o_ U2_ => ∃ v_ L_, o_ = .returned v_ ∧ Q_own_of3 Z xc xk x0 x1 x2 gz gwE gwO gwA gk h0 n0 v_ U2_.heap L_ ∧ FrameEnd U_ o_ U2_ L_ ({ frames := 7, cells := 3, slots := 7, locals := 93 } : Room).cells ({ frames := 7, cells := 3, slots := 7, locals := 93 } : Room).slots) := by
  refine MetFree.of_bodySF (plainFor_of_name own_pn_com_example_saasy_saasy_ledger_SchemaStep) hisR ?_
  intro p e s m args below meth c s₁ Bd hml0 hP hK
  obtain ⟨rfl, hZ, hh⟩ := hP
  have hx := Bd.exec
  have hby := Bd.bytes
  have hml : c.maxLocals = 1 := hml0
  have hown : s.vm.findClass "com/example/saasy/saasy/ledger/SchemaStep" = some m.cls := findClass_of_methodNamed Bd.named
  have hnm := (name_of_methodNamed Bd.named Bd.method).1
  have hlk : meth.locks = false := Bd.notSynchronized
  have hret := Bd.returns
  have X0 : Stand p l e ({ frames := 7, cells := 3, slots := 7, locals := 93 } : Room) s m #[(.ref xc)] below meth c s₁ [] 0 0 := Stand.of_body Bd
  have e0 : s₁.heap = h0 := by rw [← hh, Bd.state]; rfl
  have N0 := Fr.nil n0
  have z0 : Z.heap.size = n0 := O0.1
  have z1 : n0 ≤ h0.size := z0 ▸ O0.2.1
  have K0 : Keep h0 h0 [] := Keep.refl _ _
  show own_Goes p e below (s₁.setTop (entryFrame m #[(.ref xc)] 1)) (own_PostN s (Q_own_of3 Z xc xk x0 x1 x2 gz gwE gwO gwA gk h0 n0) ({ frames := 7, cells := 3, slots := 7, locals := 93 } : Room).cells ({ frames := 7, cells := 3, slots := 7, locals := 93 } : Room).slots)
  refine own_cast (own_ef_own_of3 m xc) ?_
  show own_Goes p e below (s₁.setTop (mkF m 0 #[.val (.ref xc)] [])) _
  obtain ⟨G0, G1, G2, G3, G4, G5, G6, G7⟩ := id G
  have ltG3 : @LT.lt Nat _ gwE Z.heap.size := G3.lt
  have ltG5 : @LT.lt Nat _ gwO Z.heap.size := G5.lt
  have ltG7 : @LT.lt Nat _ gwA Z.heap.size := G7.lt
  have ltP0 : @LT.lt Nat _ xc h0.size := P0.lt
  have ltP1 : @LT.lt Nat _ x0 h0.size := P1.lt
  have ltP2 : @LT.lt Nat _ x1 h0.size := P2.lt
  have ltP3 : @LT.lt Nat _ x2 h0.size := P3.lt
  obtain ⟨T1, h1, X1, e1, E1, A1, D1, -, st1⟩ := newO X0 hx hZ hown (hw _ (List.mem_of_getElem? (i := 39) rfl)) (hw _ (List.mem_of_getElem? (i := 40) rfl)) (hw _ (List.mem_of_getElem? (i := 37) rfl)) e0 (g := (mkF m 0 #[.val (.ref xc)] [])) rfl (hb hby own_d8_0) (by decide) (by decide)
  obtain ⟨b1, g1⟩ : ∃ z, z = h0.size := ⟨_, rfl⟩
  rw [← g1] at A1 D1 st1
  refine own_go st1 ?_
  have O2 := O0.ext E1
  have sz3 : h0.size ≤ h1.size := E1.1
  have K4 := K0.ext E1
  have l1 : @LT.lt Nat _ b1 h1.size := A1.lt
  have F1_rewritten : Fld Z h1 b1 "com/example/saasy/saasy/ledger/SchemaStep" "rewritten" "Ljava/util/List;" .null := D1 (Or.inr (hw _ (List.mem_of_getElem? (i := 55) rfl))) (ty := (.object "java/util/List")) (by decide)
  have F1_statements : Fld Z h1 b1 "com/example/saasy/saasy/ledger/SchemaStep" "statements" "Ljava/util/List;" .null := D1 (Or.inr (hw _ (List.mem_of_getElem? (i := 57) rfl))) (ty := (.object "java/util/List")) (by decide)
  show own_Goes p e below (T1.setTop (mkF m 3 #[.val (.ref xc)] [(.ref b1)])) _
  refine own_go (fun t_ k_ => XS.dup X1.here hx rfl (hb hby own_d8_3) rfl rfl k_) ?_
  show own_Goes p e below (T1.setTop (mkF m 4 #[.val (.ref xc)] [(.ref b1), (.ref b1)])) _
  obtain ⟨_, _, ⟨T5, L5, k5, n5⟩, -, X5, ⟨Lc5, hQ5, l5, y5, z5⟩, st5⟩ := Jvm.LawKit.callS X1 hx (y := own_m19) hown (mvT hZ (hw _ (List.mem_of_getElem? (i := 41) rfl))) (mvT hZ (hw _ (List.mem_of_getElem? (i := 42) rfl))) (mvT hZ (hw _ (List.mem_of_getElem? (i := 43) rfl))) (mvT hZ (hw _ (List.mem_of_getElem? (i := 44) rfl))) (by decide) (backOf (W := 2) (own_lof0 l Z a0 hw []  h1 n0 O2 gz gwE gwO gwA gk G) hZ (hw _ (List.mem_of_getElem? (i := 44) rfl)) (hw _ (List.mem_of_getElem? (i := 43) rfl)) (by decide) (by decide)) (g := (mkF m 4 #[.val (.ref xc)] [(.ref b1), (.ref b1)])) rfl (by rw [hml]; rfl) (argsL := []) (rest := [(.ref b1), (.ref b1)]) (lenOf own_pd_18 rfl) rfl (by show 2 * 0 + _ ≤ _; exact Nat.le_of_eq rfl) (hb hby own_d8_4) (fun _ _ => ⟨rfl, e1, (by decide : 1 + 0 ≤ _), (by decide : 2 + 0 ≤ _)⟩)
  dsimp only [Pt.U, Pt.locs, Pt.cells, Pt.slots] at X5 l5 y5 z5 st5 hQ5
  subst l5 y5 z5
  obtain ⟨Nc5, e5, rfl⟩ := hQ5
  have N5 := Fr.app N0 Nc5
  refine own_go st5 ?_
  show own_Goes p e below (T5.setTop (mkF m 7 #[.val (.ref xc)] [(.ref gwE), (.ref b1), (.ref b1)])) _
  refine own_go (fun t_ k_ => XS.aloadN X5.here hx rfl (hb hby own_d8_7) rfl rfl k_) ?_
  show own_Goes p e below (T5.setTop (mkF m 8 #[.val (.ref xc)] [(.ref xc), (.ref gwE), (.ref b1), (.ref b1)])) _
  have f6 := (P0.ext E1)
  have f7 := (P1.ext E1)
  have f8 := (P2.ext E1)
  have f9 := (P3.ext E1)
  obtain ⟨_, _, ⟨T10, L10, k10, n10⟩, -, X10, ⟨Lc10, hQ10, l10, y10, z10⟩, st10⟩ := Jvm.LawKit.callS X5 hx (y := own_m20) hown (mvT hZ (hw _ (List.mem_of_getElem? (i := 47) rfl))) (mvT hZ (hw _ (List.mem_of_getElem? (i := 48) rfl))) (mvT hZ (hw _ (List.mem_of_getElem? (i := 43) rfl))) (mvT hZ (hw _ (List.mem_of_getElem? (i := 49) rfl))) (by decide) (backOf (W := 3) (own_lofA3 l Z a0 hw [] xc xk x0 x1 x2 h1 n0 O2 f6 f7 f8 f9) hZ (hw _ (List.mem_of_getElem? (i := 49) rfl)) (hw _ (List.mem_of_getElem? (i := 43) rfl)) (by decide) (by decide)) (g := (mkF m 8 #[.val (.ref xc)] [(.ref xc), (.ref gwE), (.ref b1), (.ref b1)])) rfl (by rw [hml]; rfl) (argsL := [(.ref xc)]) (rest := [(.ref gwE), (.ref b1), (.ref b1)]) (lenOf own_pd_16 rfl) rfl (by show 2 * 0 + _ ≤ _; exact Nat.le_of_eq rfl) (hb hby own_d8_8) (fun _ _ => ⟨rfl, e5, (by decide : 1 + 2 ≤ _), (by decide : 2 + 5 ≤ _)⟩)
  dsimp only [Pt.U, Pt.locs, Pt.cells, Pt.slots] at X10 l10 y10 z10 st10 hQ10
  subst l10 y10 z10
  obtain ⟨h10, e10⟩ : ∃ z, T10.heap = z := ⟨_, rfl⟩
  rw [e10] at hQ10
  obtain ⟨Nc10, Kc10, r_10, re_10, rk_10, rfl, c10_0, c10_1, c10_2, c10_3, c10_4⟩ := hQ10
  have N10 := Fr.app N5 Nc10
  have O11 := O2.keep Kc10 all0
  have sz12 : h1.size ≤ h10.size := Kc10.1
  have K13 := Keep.trans K4 Kc10 all0
  have ltc10_0 : @LT.lt Nat _ r_10 h10.size := c10_0.lt
  have ltc10_2 : @LT.lt Nat _ re_10 h10.size := c10_2.lt
  refine own_go st10 ?_
  show own_Goes p e below (T10.setTop (mkF m 11 #[.val (.ref xc)] [(.ref r_10), (.ref gwE), (.ref b1), (.ref b1)])) _
  have f14 := (A1.keep Kc10)
  have f15 := (F1_rewritten.keep Kc10 nin0)
  have f16 := (F1_statements.keep Kc10 nin0)
  obtain ⟨_, _, ⟨T17, L17, k17, n17⟩, -, X17, ⟨Lc17, hQ17, l17, y17, z17⟩, st17⟩ := X10.specialBack hx (y := own_m22) rfl hown (mvT hZ (hw _ (List.mem_of_getElem? (i := 50) rfl))) (mvT hZ (hw _ (List.mem_of_getElem? (i := 51) rfl))) (mvT hZ (hw _ (List.mem_of_getElem? (i := 52) rfl))) (by decide) (backOf (W := 1) (own_ssInit l Z a0 hw [] b1 gwE r_10 h10 n0 O11 f14 f15 f16 (show n0 ≤ b1 by first | assumption | omega | decide)) hZ (hw _ (List.mem_of_getElem? (i := 52) rfl)) (hw _ (List.mem_of_getElem? (i := 37) rfl)) (by decide) (by decide)) (g := (mkF m 11 #[.val (.ref xc)] [(.ref r_10), (.ref gwE), (.ref b1), (.ref b1)])) rfl (by rw [hml]; rfl) (Steps.refl _) (a := b1) (argsL := [(.ref gwE), (.ref r_10)]) (rest := [(.ref b1)]) (lenOf own_pd_21 rfl) rfl (by show 2 * 0 + _ ≤ _; exact Nat.le_of_eq rfl) (hb hby own_d8_11) (fun _ _ => ⟨rfl, e10, (by decide : 3 + 0 ≤ _), (by decide : 7 + 0 ≤ _)⟩)
  dsimp only [Pt.U, Pt.locs, Pt.cells, Pt.slots] at X17 l17 y17 z17 st17 hQ17
  subst l17 y17 z17
  obtain ⟨h17, e17⟩ : ∃ z, T17.heap = z := ⟨_, rfl⟩
  rw [e17] at hQ17
  obtain ⟨Nc17, Kc17, rfl, c17_0, c17_1⟩ := hQ17
  have N17 := Fr.app N10 Nc17
  have O18 := O11.keep Kc17 (allS (show n0 ≤ b1 by omega) all0)
  have sz19 : h10.size ≤ h17.size := Kc17.1
  have K20 := Keep.trans K13 Kc17 (allS (Or.inr (show h0.size ≤ b1 by omega)) all0)
  refine own_goS st17 ?_
  show own_Goes p e below (T17.setTop (mkF m 14 #[.val (.ref xc)] [(.ref b1)])) _
  refine own_endN X17 (v := (some (.ref b1))) (fun h => by rw [hret] at h; cases h) hlk (by decide) (by decide) ?_ (fun fs hr => retOut X17 hx hret rfl (Or.inr (Or.inr (Or.inr (Or.inr ⟨rfl, rfl, rfl⟩)))) (hb hby own_d8_14) hr)
  show Q_own_of3 Z xc xk x0 x1 x2 gz gwE gwO gwA gk h0 n0 _ T17.heap _
  rw [e17]
  have f21 := (f14.keep Kc17)
  have f22 := (c10_0.keep Kc17)
  have f23 := (c10_1.keep Kc17 (ninS (own_ne (a := r_10) (b := b1) (by omega)) nin0))
  have f24 := (c10_2.keep Kc17 (ninS (own_ne (a := re_10) (b := b1) (by omega)) nin0))
  exact ⟨N17, K20, b1, r_10, re_10, rk_10, rfl, f21, c17_0, c17_1, (show h0.size ≤ b1 by first | assumption | omega | decide), f22, f23, f24⟩
theorem own_d12_0 : decode prog_16_method_4_code 0 = .ok (.aload_n 0, 1) := by decide +kernel
theorem own_d12_1 : decode prog_16_method_4_code 1 = .ok (.getfield 13, 3) := by decide +kernel
theorem own_d12_4 : decode prog_16_method_4_code 4 = .ok (.areturn, 1) := by decide +kernel
theorem own_ef_own_stm (m : MethodId) (xa : Addr) : entryFrame m #[(.ref xa)] 1 = mkF m 0 #[.val (.ref xa)] [] := by first | (simp [entryFrame, mkF, argsToLocals, Value.category]; done) | rfl
def Q_own_stm (Z : State) (xa : Addr) (xv : Addr) (h0 : Heap) (n0 : Nat) (v : Option Value) (h : Heap) (L : List Loc) : Prop := Fr n0 L ∧ h = h0 ∧ v = some (.ref xv)
set_option maxRecDepth 65536 in
set_option maxHeartbeats 40000000 in
theorem own_stm (l : Launch) (Z : State) (a0 : Array Value) (hw : ∀ d ∈ tables_1, d.before a0 Z = true) (ws : List Jvm.Cond) (xa : Addr) (xv : Addr) (h0 : Heap) (n0 : Nat) (O0 : Old Z n0 h0) (P0 : Fld Z h0 xa "com/example/saasy/saasy/ledger/SchemaStep" "statements" "Ljava/util/List;" (.ref xv)) :
    MetFree l (⟨"com/example/saasy/saasy/ledger/SchemaStep", "statements", "()Ljava/util/List;"⟩ : MethodName) (head1 (Jvm.Cond.code (⟨"com/example/saasy/saasy/ledger/SchemaStep", "statements", "()Ljava/util/List;"⟩ : MethodName) prog_16_method_4_code 1 (some (.object "java/util/List")) :: ws) ({ frames := 0, cells := 0, slots := 0, locals := 0 } : Room)) (fun as_ U_ => as_ = #[(.ref xa)] ∧ Z.Warmed39 U_.vm ∧ U_.heap = h0) (fun _ _ _ _ _ => True) (fun _ U_ o_ U2_ => ∃ v_ L_, o_ = .returned v_ ∧ Q_own_stm Z xa xv h0 n0 v_ U2_.heap L_ ∧ FrameEnd U_ o_ U2_ L_ ({ frames := 0, cells := 0, slots := 0, locals := 0 } : Room).cells ({ frames := 0, cells := 0, slots := 0, locals := 0 } : Room).slots) := by
  refine MetFree.of_bodySF (plainFor_of_name own_pn_com_example_saasy_saasy_ledger_SchemaStep) hisR ?_
  intro p e s m args below meth c s₁ Bd hml0 hP hK
  obtain ⟨rfl, hZ, hh⟩ := hP
  have hx := Bd.exec
  have hby := Bd.bytes
  have hml : c.maxLocals = 1 := hml0
  have hown : s.vm.findClass "com/example/saasy/saasy/ledger/SchemaStep" = some m.cls := findClass_of_methodNamed Bd.named
  have hnm := (name_of_methodNamed Bd.named Bd.method).1
  have hlk : meth.locks = false := Bd.notSynchronized
  have hret := Bd.returns
  have X0 : Stand p l e ({ frames := 0, cells := 0, slots := 0, locals := 0 } : Room) s m #[(.ref xa)] below meth c s₁ [] 0 0 := Stand.of_body Bd
  have e0 : s₁.heap = h0 := by rw [← hh, Bd.state]; rfl
  have N0 := Fr.nil n0
  have z0 : Z.heap.size = n0 := O0.1
  have z1 : n0 ≤ h0.size := z0 ▸ O0.2.1
  show own_Goes p e below (s₁.setTop (entryFrame m #[(.ref xa)] 1)) (own_PostN s (Q_own_stm Z xa xv h0 n0) ({ frames := 0, cells := 0, slots := 0, locals := 0 } : Room).cells ({ frames := 0, cells := 0, slots := 0, locals := 0 } : Room).slots)
  refine own_cast (own_ef_own_stm m xa) ?_
  show own_Goes p e below (s₁.setTop (mkF m 0 #[.val (.ref xa)] [])) _
  refine own_go (fun t_ k_ => XS.aloadN X0.here hx rfl (hb hby own_d12_0) rfl rfl k_) ?_
  show own_Goes p e below (s₁.setTop (mkF m 1 #[.val (.ref xa)] [(.ref xa)])) _
  obtain ⟨T1, X1, e1, st1⟩ := getF X0 hx hZ hown (host := "") (Or.inl (hw _ (List.mem_of_getElem? (i := 56) rfl))) Via.refl e0 P0 (g := (mkF m 1 #[.val (.ref xa)] [(.ref xa)])) rfl rfl (hb hby own_d12_1)
  refine own_go st1 ?_
  show own_Goes p e below (T1.setTop (mkF m 4 #[.val (.ref xa)] [(.ref xv)])) _
  refine own_endN X1 (v := (some (.ref xv))) (fun h => by rw [hret] at h; cases h) hlk (by decide) (by decide) ?_ (fun fs hr => retOut X1 hx hret rfl (Or.inr (Or.inr (Or.inr (Or.inr ⟨rfl, rfl, rfl⟩)))) (hb hby own_d12_4) hr)
  show Q_own_stm Z xa xv h0 n0 _ T1.heap _
  rw [e1]
  exact ⟨N0, rfl, rfl⟩
theorem own_d13_0 : decode prog_16_method_5_code 0 = .ok (.aload_n 0, 1) := by decide +kernel
theorem own_d13_1 : decode prog_16_method_5_code 1 = .ok (.getfield 7, 3) := by decide +kernel
theorem own_d13_4 : decode prog_16_method_5_code 4 = .ok (.areturn, 1) := by decide +kernel
theorem own_ef_own_rew (m : MethodId) (xa : Addr) : entryFrame m #[(.ref xa)] 1 = mkF m 0 #[.val (.ref xa)] [] := by first | (simp [entryFrame, mkF, argsToLocals, Value.category]; done) | rfl
def Q_own_rew (Z : State) (xa : Addr) (xv : Addr) (h0 : Heap) (n0 : Nat) (v : Option Value) (h : Heap) (L : List Loc) : Prop := Fr n0 L ∧ h = h0 ∧ v = some (.ref xv)
set_option maxRecDepth 65536 in
set_option maxHeartbeats 40000000 in
theorem own_rew (l : Launch) (Z : State) (a0 : Array Value) (hw : ∀ d ∈ tables_1, d.before a0 Z = true) (ws : List Jvm.Cond) (xa : Addr) (xv : Addr) (h0 : Heap) (n0 : Nat) (O0 : Old Z n0 h0) (P0 : Fld Z h0 xa "com/example/saasy/saasy/ledger/SchemaStep" "rewritten" "Ljava/util/List;" (.ref xv)) :
    MetFree l (⟨"com/example/saasy/saasy/ledger/SchemaStep", "rewritten", "()Ljava/util/List;"⟩ : MethodName) (head1 (Jvm.Cond.code (⟨"com/example/saasy/saasy/ledger/SchemaStep", "rewritten", "()Ljava/util/List;"⟩ : MethodName) prog_16_method_5_code 1 (some (.object "java/util/List")) :: ws) ({ frames := 0, cells := 0, slots := 0, locals := 0 } : Room)) (fun as_ U_ => as_ = #[(.ref xa)] ∧ Z.Warmed39 U_.vm ∧ U_.heap = h0) (fun _ _ _ _ _ => True) (fun _ U_ o_ U2_ => ∃ v_ L_, o_ = .returned v_ ∧ Q_own_rew Z xa xv h0 n0 v_ U2_.heap L_ ∧ FrameEnd U_ o_ U2_ L_ ({ frames := 0, cells := 0, slots := 0, locals := 0 } : Room).cells ({ frames := 0, cells := 0, slots := 0, locals := 0 } : Room).slots) := by
  refine MetFree.of_bodySF (plainFor_of_name own_pn_com_example_saasy_saasy_ledger_SchemaStep) hisR ?_
  intro p e s m args below meth c s₁ Bd hml0 hP hK
  obtain ⟨rfl, hZ, hh⟩ := hP
  have hx := Bd.exec
  have hby := Bd.bytes
  have hml : c.maxLocals = 1 := hml0
  have hown : s.vm.findClass "com/example/saasy/saasy/ledger/SchemaStep" = some m.cls := findClass_of_methodNamed Bd.named
  have hnm := (name_of_methodNamed Bd.named Bd.method).1
  have hlk : meth.locks = false := Bd.notSynchronized
  have hret := Bd.returns
  have X0 : Stand p l e ({ frames := 0, cells := 0, slots := 0, locals := 0 } : Room) s m #[(.ref xa)] below meth c s₁ [] 0 0 := Stand.of_body Bd
  have e0 : s₁.heap = h0 := by rw [← hh, Bd.state]; rfl
  have N0 := Fr.nil n0
  have z0 : Z.heap.size = n0 := O0.1
  have z1 : n0 ≤ h0.size := z0 ▸ O0.2.1
  show own_Goes p e below (s₁.setTop (entryFrame m #[(.ref xa)] 1)) (own_PostN s (Q_own_rew Z xa xv h0 n0) ({ frames := 0, cells := 0, slots := 0, locals := 0 } : Room).cells ({ frames := 0, cells := 0, slots := 0, locals := 0 } : Room).slots)
  refine own_cast (own_ef_own_rew m xa) ?_
  show own_Goes p e below (s₁.setTop (mkF m 0 #[.val (.ref xa)] [])) _
  refine own_go (fun t_ k_ => XS.aloadN X0.here hx rfl (hb hby own_d13_0) rfl rfl k_) ?_
  show own_Goes p e below (s₁.setTop (mkF m 1 #[.val (.ref xa)] [(.ref xa)])) _
  obtain ⟨T1, X1, e1, st1⟩ := getF X0 hx hZ hown (host := "") (Or.inl (hw _ (List.mem_of_getElem? (i := 54) rfl))) Via.refl e0 P0 (g := (mkF m 1 #[.val (.ref xa)] [(.ref xa)])) rfl rfl (hb hby own_d13_1)
  refine own_go st1 ?_
  show own_Goes p e below (T1.setTop (mkF m 4 #[.val (.ref xa)] [(.ref xv)])) _
  refine own_endN X1 (v := (some (.ref xv))) (fun h => by rw [hret] at h; cases h) hlk (by decide) (by decide) ?_ (fun fs hr => retOut X1 hx hret rfl (Or.inr (Or.inr (Or.inr (Or.inr ⟨rfl, rfl, rfl⟩)))) (hb hby own_d13_4) hr)
  show Q_own_rew Z xa xv h0 n0 _ T1.heap _
  rw [e1]
  exact ⟨N0, rfl, rfl⟩
theorem own_d14_0 : decode jdk_45_method_3_code 0 = .ok (.aload_n 0, 1) := by decide +kernel
theorem own_d14_1 : decode jdk_45_method_3_code 1 = .ok (.getfield 7, 3) := by decide +kernel
theorem own_d14_4 : decode jdk_45_method_3_code 4 = .ok (.arraylength, 1) := by decide +kernel
theorem own_d14_5 : decode jdk_45_method_3_code 5 = .ok (.ireturn, 1) := by decide +kernel
theorem own_ef_own_lnSize0 (m : MethodId) (xa : Addr) : entryFrame m #[(.ref xa)] 1 = mkF m 0 #[.val (.ref xa)] [] := by first | (simp [entryFrame, mkF, argsToLocals, Value.category]; done) | rfl
def Q_own_lnSize0 (Z : State) (xa : Addr) (xe : Addr) (xk : ClassId) (h0 : Heap) (n0 : Nat) (v : Option Value) (h : Heap) (L : List Loc) : Prop := Fr n0 L ∧ h = h0 ∧ v = some (.int (0 : Int32))
set_option maxRecDepth 65536 in
set_option maxHeartbeats 40000000 in
theorem own_lnSize0 (l : Launch) (Z : State) (a0 : Array Value) (hw : ∀ d ∈ tables_1, d.before a0 Z = true) (ws : List Jvm.Cond) (xa : Addr) (xe : Addr) (xk : ClassId) (h0 : Heap) (n0 : Nat) (O0 : Old Z n0 h0) (P0 : Fld Z h0 xa "java/util/ImmutableCollections$ListN" "elements" "[Ljava/lang/Object;" (.ref xe)) (P1 : Arv Z h0 xe xk (.object "java/lang/Object") (0 : Int32) [] .null) :
    MetFree l (⟨"java/util/ImmutableCollections$ListN", "size", "()I"⟩ : MethodName) (head1 (Jvm.Cond.code (⟨"java/util/ImmutableCollections$ListN", "size", "()I"⟩ : MethodName) jdk_45_method_3_code 1 (some .int) :: ws) ({ frames := 0, cells := 0, slots := 0, locals := 0 } : Room)) (fun as_ U_ => as_ = #[(.ref xa)] ∧ Z.Warmed39 U_.vm ∧ U_.heap = h0) (fun _ _ _ _ _ => True) (fun _ U_ o_ U2_ => ∃ v_ L_, o_ = .returned v_ ∧ Q_own_lnSize0 Z xa xe xk h0 n0 v_ U2_.heap L_ ∧ FrameEnd U_ o_ U2_ L_ ({ frames := 0, cells := 0, slots := 0, locals := 0 } : Room).cells ({ frames := 0, cells := 0, slots := 0, locals := 0 } : Room).slots) := by
  refine MetFree.of_bodySF (plainFor_of_name own_pn_java_util_ImmutableCollections_ListN) hisR ?_
  intro p e s m args below meth c s₁ Bd hml0 hP hK
  obtain ⟨rfl, hZ, hh⟩ := hP
  have hx := Bd.exec
  have hby := Bd.bytes
  have hml : c.maxLocals = 1 := hml0
  have hown : s.vm.findClass "java/util/ImmutableCollections$ListN" = some m.cls := findClass_of_methodNamed Bd.named
  have hnm := (name_of_methodNamed Bd.named Bd.method).1
  have hlk : meth.locks = false := Bd.notSynchronized
  have hret := Bd.returns
  have X0 : Stand p l e ({ frames := 0, cells := 0, slots := 0, locals := 0 } : Room) s m #[(.ref xa)] below meth c s₁ [] 0 0 := Stand.of_body Bd
  have e0 : s₁.heap = h0 := by rw [← hh, Bd.state]; rfl
  have N0 := Fr.nil n0
  have z0 : Z.heap.size = n0 := O0.1
  have z1 : n0 ≤ h0.size := z0 ▸ O0.2.1
  show own_Goes p e below (s₁.setTop (entryFrame m #[(.ref xa)] 1)) (own_PostN s (Q_own_lnSize0 Z xa xe xk h0 n0) ({ frames := 0, cells := 0, slots := 0, locals := 0 } : Room).cells ({ frames := 0, cells := 0, slots := 0, locals := 0 } : Room).slots)
  refine own_cast (own_ef_own_lnSize0 m xa) ?_
  show own_Goes p e below (s₁.setTop (mkF m 0 #[.val (.ref xa)] [])) _
  have ltP1 : @LT.lt Nat _ xe h0.size := P1.lt
  refine own_go (fun t_ k_ => XS.aloadN X0.here hx rfl (hb hby own_d14_0) rfl rfl k_) ?_
  show own_Goes p e below (s₁.setTop (mkF m 1 #[.val (.ref xa)] [(.ref xa)])) _
  obtain ⟨T1, X1, e1, st1⟩ := getF X0 hx hZ hown (host := "") (Or.inl (hw _ (List.mem_of_getElem? (i := 78) rfl))) Via.refl e0 P0 (g := (mkF m 1 #[.val (.ref xa)] [(.ref xa)])) rfl rfl (hb hby own_d14_1)
  refine own_go st1 ?_
  show own_Goes p e below (T1.setTop (mkF m 4 #[.val (.ref xa)] [(.ref xe)])) _
  obtain ⟨clu2, Aru2, qu2, Szu2, Ngu2, Hsu2, Gsu2⟩ := id P1
  refine own_go (fun t_ k_ => X1.arraylength hx (by rw [e1]; exact Aru2.1) (State.isArrayOf_alike hZ.alike Aru2.2.1) (g := (mkF m 4 #[.val (.ref xa)] [(.ref xe)])) rfl rfl (hb hby own_d14_4) _ k_) ?_
  rw [len_of Szu2 Ngu2]
  show own_Goes p e below (T1.setTop (mkF m 5 #[.val (.ref xa)] [(.int (0 : Int32))])) _
  refine own_endN X1 (v := (some (.int (0 : Int32)))) (fun h => by rw [hret] at h; cases h) hlk (by decide) (by decide) ?_ (fun fs hr => retOut X1 hx hret rfl (Or.inl ⟨rfl, Or.inl rfl, _, rfl⟩) (hb hby own_d14_5) hr)
  show Q_own_lnSize0 Z xa xe xk h0 n0 _ T1.heap _
  rw [e1]
  exact ⟨N0, rfl, rfl⟩
theorem own_ef_own_lnSize3 (m : MethodId) (xa : Addr) : entryFrame m #[(.ref xa)] 1 = mkF m 0 #[.val (.ref xa)] [] := by first | (simp [entryFrame, mkF, argsToLocals, Value.category]; done) | rfl
def Q_own_lnSize3 (Z : State) (xa : Addr) (xe : Addr) (xk : ClassId) (x0 : Addr) (x1 : Addr) (x2 : Addr) (h0 : Heap) (n0 : Nat) (v : Option Value) (h : Heap) (L : List Loc) : Prop := Fr n0 L ∧ h = h0 ∧ v = some (.int (3 : Int32))
set_option maxRecDepth 65536 in
set_option maxHeartbeats 40000000 in
theorem own_lnSize3 (l : Launch) (Z : State) (a0 : Array Value) (hw : ∀ d ∈ tables_1, d.before a0 Z = true) (ws : List Jvm.Cond) (xa : Addr) (xe : Addr) (xk : ClassId) (x0 : Addr) (x1 : Addr) (x2 : Addr) (h0 : Heap) (n0 : Nat) (O0 : Old Z n0 h0) (P0 : Fld Z h0 xa "java/util/ImmutableCollections$ListN" "elements" "[Ljava/lang/Object;" (.ref xe)) (P1 : Arv Z h0 xe xk (.object "java/lang/Object") (3 : Int32) [(.ref x0), (.ref x1), (.ref x2)] .null) :
    MetFree l (⟨"java/util/ImmutableCollections$ListN", "size", "()I"⟩ : MethodName) (head1 (Jvm.Cond.code (⟨"java/util/ImmutableCollections$ListN", "size", "()I"⟩ : MethodName) jdk_45_method_3_code 1 (some .int) :: ws) ({ frames := 0, cells := 0, slots := 0, locals := 0 } : Room)) (fun as_ U_ => as_ = #[(.ref xa)] ∧ Z.Warmed39 U_.vm ∧ U_.heap = h0) (fun _ _ _ _ _ => True) (fun _ U_ o_ U2_ => ∃ v_ L_, o_ = .returned v_ ∧ Q_own_lnSize3 Z xa xe xk x0 x1 x2 h0 n0 v_ U2_.heap L_ ∧ FrameEnd U_ o_ U2_ L_ ({ frames := 0, cells := 0, slots := 0, locals := 0 } : Room).cells ({ frames := 0, cells := 0, slots := 0, locals := 0 } : Room).slots) := by
  refine MetFree.of_bodySF (plainFor_of_name own_pn_java_util_ImmutableCollections_ListN) hisR ?_
  intro p e s m args below meth c s₁ Bd hml0 hP hK
  obtain ⟨rfl, hZ, hh⟩ := hP
  have hx := Bd.exec
  have hby := Bd.bytes
  have hml : c.maxLocals = 1 := hml0
  have hown : s.vm.findClass "java/util/ImmutableCollections$ListN" = some m.cls := findClass_of_methodNamed Bd.named
  have hnm := (name_of_methodNamed Bd.named Bd.method).1
  have hlk : meth.locks = false := Bd.notSynchronized
  have hret := Bd.returns
  have X0 : Stand p l e ({ frames := 0, cells := 0, slots := 0, locals := 0 } : Room) s m #[(.ref xa)] below meth c s₁ [] 0 0 := Stand.of_body Bd
  have e0 : s₁.heap = h0 := by rw [← hh, Bd.state]; rfl
  have N0 := Fr.nil n0
  have z0 : Z.heap.size = n0 := O0.1
  have z1 : n0 ≤ h0.size := z0 ▸ O0.2.1
  show own_Goes p e below (s₁.setTop (entryFrame m #[(.ref xa)] 1)) (own_PostN s (Q_own_lnSize3 Z xa xe xk x0 x1 x2 h0 n0) ({ frames := 0, cells := 0, slots := 0, locals := 0 } : Room).cells ({ frames := 0, cells := 0, slots := 0, locals := 0 } : Room).slots)
  refine own_cast (own_ef_own_lnSize3 m xa) ?_
  show own_Goes p e below (s₁.setTop (mkF m 0 #[.val (.ref xa)] [])) _
  have ltP1 : @LT.lt Nat _ xe h0.size := P1.lt
  refine own_go (fun t_ k_ => XS.aloadN X0.here hx rfl (hb hby own_d14_0) rfl rfl k_) ?_
  show own_Goes p e below (s₁.setTop (mkF m 1 #[.val (.ref xa)] [(.ref xa)])) _
  obtain ⟨T1, X1, e1, st1⟩ := getF X0 hx hZ hown (host := "") (Or.inl (hw _ (List.mem_of_getElem? (i := 78) rfl))) Via.refl e0 P0 (g := (mkF m 1 #[.val (.ref xa)] [(.ref xa)])) rfl rfl (hb hby own_d14_1)
  refine own_go st1 ?_
  show own_Goes p e below (T1.setTop (mkF m 4 #[.val (.ref xa)] [(.ref xe)])) _
  obtain ⟨clu2, Aru2, qu2, Szu2, Ngu2, Hsu2, Gsu2⟩ := id P1
  refine own_go (fun t_ k_ => X1.arraylength hx (by rw [e1]; exact Aru2.1) (State.isArrayOf_alike hZ.alike Aru2.2.1) (g := (mkF m 4 #[.val (.ref xa)] [(.ref xe)])) rfl rfl (hb hby own_d14_4) _ k_) ?_
  rw [len_of Szu2 Ngu2]
  show own_Goes p e below (T1.setTop (mkF m 5 #[.val (.ref xa)] [(.int (3 : Int32))])) _
  refine own_endN X1 (v := (some (.int (3 : Int32)))) (fun h => by rw [hret] at h; cases h) hlk (by decide) (by decide) ?_ (fun fs hr => retOut X1 hx hret rfl (Or.inl ⟨rfl, Or.inl rfl, _, rfl⟩) (hb hby own_d14_5) hr)
  show Q_own_lnSize3 Z xa xe xk x0 x1 x2 h0 n0 _ T1.heap _
  rw [e1]
  exact ⟨N0, rfl, rfl⟩
theorem own_d21_0 : decode jdk_45_method_4_code 0 = .ok (.aload_n 0, 1) := by decide +kernel
theorem own_d21_1 : decode jdk_45_method_4_code 1 = .ok (.getfield 7, 3) := by decide +kernel
theorem own_d21_4 : decode jdk_45_method_4_code 4 = .ok (.iload_n 1, 1) := by decide +kernel
theorem own_d21_5 : decode jdk_45_method_4_code 5 = .ok (.aaload, 1) := by decide +kernel
theorem own_d21_6 : decode jdk_45_method_4_code 6 = .ok (.areturn, 1) := by decide +kernel
theorem own_ef_own_lnGet0 (m : MethodId) (xa : Addr) : entryFrame m #[(.ref xa), (.int (0 : Int32))] 2 = mkF m 0 #[.val (.ref xa), .val (.int (0 : Int32))] [] := by first | (simp [entryFrame, mkF, argsToLocals, Value.category]; done) | rfl
def Q_own_lnGet0 (Z : State) (xa : Addr) (xe : Addr) (xk : ClassId) (x0 : Addr) (x1 : Addr) (x2 : Addr) (h0 : Heap) (n0 : Nat) (v : Option Value) (h : Heap) (L : List Loc) : Prop := Fr n0 L ∧ h = h0 ∧ v = some (.ref x0)
set_option maxRecDepth 65536 in
set_option maxHeartbeats 40000000 in
theorem own_lnGet0 (l : Launch) (Z : State) (a0 : Array Value) (hw : ∀ d ∈ tables_1, d.before a0 Z = true) (ws : List Jvm.Cond) (xa : Addr) (xe : Addr) (xk : ClassId) (x0 : Addr) (x1 : Addr) (x2 : Addr) (h0 : Heap) (n0 : Nat) (O0 : Old Z n0 h0) (P0 : Fld Z h0 xa "java/util/ImmutableCollections$ListN" "elements" "[Ljava/lang/Object;" (.ref xe)) (P1 : Arv Z h0 xe xk (.object "java/lang/Object") (3 : Int32) [(.ref x0), (.ref x1), (.ref x2)] .null) :
    MetFree l (⟨"java/util/ImmutableCollections$ListN", "get", "(I)Ljava/lang/Object;"⟩ : MethodName) (head1 (Jvm.Cond.code (⟨"java/util/ImmutableCollections$ListN", "get", "(I)Ljava/lang/Object;"⟩ : MethodName) jdk_45_method_4_code 2 (some (.object "java/lang/Object")) :: ws) ({ frames := 0, cells := 0, slots := 0, locals := 0 } : Room)) (fun as_ U_ => as_ = #[(.ref xa), (.int (0 : Int32))] ∧ Z.Warmed39 U_.vm ∧ U_.heap = h0) (fun _ _ _ _ _ => True) (fun _ U_ o_ U2_ => ∃ v_ L_, o_ = .returned v_ ∧ Q_own_lnGet0 Z xa xe xk x0 x1 x2 h0 n0 v_ U2_.heap L_ ∧ FrameEnd U_ o_ U2_ L_ ({ frames := 0, cells := 0, slots := 0, locals := 0 } : Room).cells ({ frames := 0, cells := 0, slots := 0, locals := 0 } : Room).slots) := by
  refine MetFree.of_bodySF (plainFor_of_name own_pn_java_util_ImmutableCollections_ListN) hisR ?_
  intro p e s m args below meth c s₁ Bd hml0 hP hK
  obtain ⟨rfl, hZ, hh⟩ := hP
  have hx := Bd.exec
  have hby := Bd.bytes
  have hml : c.maxLocals = 2 := hml0
  have hown : s.vm.findClass "java/util/ImmutableCollections$ListN" = some m.cls := findClass_of_methodNamed Bd.named
  have hnm := (name_of_methodNamed Bd.named Bd.method).1
  have hlk : meth.locks = false := Bd.notSynchronized
  have hret := Bd.returns
  have X0 : Stand p l e ({ frames := 0, cells := 0, slots := 0, locals := 0 } : Room) s m #[(.ref xa), (.int (0 : Int32))] below meth c s₁ [] 0 0 := Stand.of_body Bd
  have e0 : s₁.heap = h0 := by rw [← hh, Bd.state]; rfl
  have N0 := Fr.nil n0
  have z0 : Z.heap.size = n0 := O0.1
  have z1 : n0 ≤ h0.size := z0 ▸ O0.2.1
  show own_Goes p e below (s₁.setTop (entryFrame m #[(.ref xa), (.int (0 : Int32))] 2)) (own_PostN s (Q_own_lnGet0 Z xa xe xk x0 x1 x2 h0 n0) ({ frames := 0, cells := 0, slots := 0, locals := 0 } : Room).cells ({ frames := 0, cells := 0, slots := 0, locals := 0 } : Room).slots)
  refine own_cast (own_ef_own_lnGet0 m xa) ?_
  show own_Goes p e below (s₁.setTop (mkF m 0 #[.val (.ref xa), .val (.int (0 : Int32))] [])) _
  have ltP1 : @LT.lt Nat _ xe h0.size := P1.lt
  refine own_go (fun t_ k_ => XS.aloadN X0.here hx rfl (hb hby own_d21_0) rfl rfl k_) ?_
  show own_Goes p e below (s₁.setTop (mkF m 1 #[.val (.ref xa), .val (.int (0 : Int32))] [(.ref xa)])) _
  obtain ⟨T1, X1, e1, st1⟩ := getF X0 hx hZ hown (host := "") (Or.inl (hw _ (List.mem_of_getElem? (i := 78) rfl))) Via.refl e0 P0 (g := (mkF m 1 #[.val (.ref xa), .val (.int (0 : Int32))] [(.ref xa)])) rfl rfl (hb hby own_d21_1)
  refine own_go st1 ?_
  show own_Goes p e below (T1.setTop (mkF m 4 #[.val (.ref xa), .val (.int (0 : Int32))] [(.ref xe)])) _
  refine own_go (fun t_ k_ => XS.iloadN X1.here hx rfl (hb hby own_d21_4) rfl k_) ?_
  show own_Goes p e below (T1.setTop (mkF m 5 #[.val (.ref xa), .val (.int (0 : Int32))] [(.int (0 : Int32)), (.ref xe)])) _
  obtain ⟨clu2, Aru2, qu2, Szu2, Ngu2, Hsu2, Gsu2⟩ := id P1
  have inu2 : ¬ ((0 : Int32) < 0 ∨ clu2.slots.size ≤ ((0 : Int32)).toNatClampNeg) := inb_of Szu2 ⟨by decide, by decide⟩
  have atu2 : clu2.slots[((0 : Int32)).toNatClampNeg]? = some (.ref x0) := Hsu2.at inu2 rfl
  refine own_go (fun t_ k_ => X1.aaload hx (j := (0 : Int32)) (v := (.ref x0)) (by rw [e1]; exact Aru2.1) (State.isArrayOf_alike hZ.alike Aru2.2.1) rfl Aru2.2.2 inu2 atu2 (g := (mkF m 5 #[.val (.ref xa), .val (.int (0 : Int32))] [(.int (0 : Int32)), (.ref xe)])) rfl rfl (hb hby own_d21_5) _ k_) ?_
  show own_Goes p e below (T1.setTop (mkF m 6 #[.val (.ref xa), .val (.int (0 : Int32))] [(.ref x0)])) _
  refine own_endN X1 (v := (some (.ref x0))) (fun h => by rw [hret] at h; cases h) hlk (by decide) (by decide) ?_ (fun fs hr => retOut X1 hx hret rfl (Or.inr (Or.inr (Or.inr (Or.inr ⟨rfl, rfl, rfl⟩)))) (hb hby own_d21_6) hr)
  show Q_own_lnGet0 Z xa xe xk x0 x1 x2 h0 n0 _ T1.heap _
  rw [e1]
  exact ⟨N0, rfl, rfl⟩
theorem own_ef_own_lnGet1 (m : MethodId) (xa : Addr) : entryFrame m #[(.ref xa), (.int (1 : Int32))] 2 = mkF m 0 #[.val (.ref xa), .val (.int (1 : Int32))] [] := by first | (simp [entryFrame, mkF, argsToLocals, Value.category]; done) | rfl
def Q_own_lnGet1 (Z : State) (xa : Addr) (xe : Addr) (xk : ClassId) (x0 : Addr) (x1 : Addr) (x2 : Addr) (h0 : Heap) (n0 : Nat) (v : Option Value) (h : Heap) (L : List Loc) : Prop := Fr n0 L ∧ h = h0 ∧ v = some (.ref x1)
set_option maxRecDepth 65536 in
set_option maxHeartbeats 40000000 in
theorem own_lnGet1 (l : Launch) (Z : State) (a0 : Array Value) (hw : ∀ d ∈ tables_1, d.before a0 Z = true) (ws : List Jvm.Cond) (xa : Addr) (xe : Addr) (xk : ClassId) (x0 : Addr) (x1 : Addr) (x2 : Addr) (h0 : Heap) (n0 : Nat) (O0 : Old Z n0 h0) (P0 : Fld Z h0 xa "java/util/ImmutableCollections$ListN" "elements" "[Ljava/lang/Object;" (.ref xe)) (P1 : Arv Z h0 xe xk (.object "java/lang/Object") (3 : Int32) [(.ref x0), (.ref x1), (.ref x2)] .null) :
    MetFree l (⟨"java/util/ImmutableCollections$ListN", "get", "(I)Ljava/lang/Object;"⟩ : MethodName) (head1 (Jvm.Cond.code (⟨"java/util/ImmutableCollections$ListN", "get", "(I)Ljava/lang/Object;"⟩ : MethodName) jdk_45_method_4_code 2 (some (.object "java/lang/Object")) :: ws) ({ frames := 0, cells := 0, slots := 0, locals := 0 } : Room)) (fun as_ U_ => as_ = #[(.ref xa), (.int (1 : Int32))] ∧ Z.Warmed39 U_.vm ∧ U_.heap = h0) (fun _ _ _ _ _ => True) (fun _ U_ o_ U2_ => ∃ v_ L_, o_ = .returned v_ ∧ Q_own_lnGet1 Z xa xe xk x0 x1 x2 h0 n0 v_ U2_.heap L_ ∧ FrameEnd U_ o_ U2_ L_ ({ frames := 0, cells := 0, slots := 0, locals := 0 } : Room).cells ({ frames := 0, cells := 0, slots := 0, locals := 0 } : Room).slots) := by
  refine MetFree.of_bodySF (plainFor_of_name own_pn_java_util_ImmutableCollections_ListN) hisR ?_
  intro p e s m args below meth c s₁ Bd hml0 hP hK
  obtain ⟨rfl, hZ, hh⟩ := hP
  have hx := Bd.exec
  have hby := Bd.bytes
  have hml : c.maxLocals = 2 := hml0
  have hown : s.vm.findClass "java/util/ImmutableCollections$ListN" = some m.cls := findClass_of_methodNamed Bd.named
  have hnm := (name_of_methodNamed Bd.named Bd.method).1
  have hlk : meth.locks = false := Bd.notSynchronized
  have hret := Bd.returns
  have X0 : Stand p l e ({ frames := 0, cells := 0, slots := 0, locals := 0 } : Room) s m #[(.ref xa), (.int (1 : Int32))] below meth c s₁ [] 0 0 := Stand.of_body Bd
  have e0 : s₁.heap = h0 := by rw [← hh, Bd.state]; rfl
  have N0 := Fr.nil n0
  have z0 : Z.heap.size = n0 := O0.1
  have z1 : n0 ≤ h0.size := z0 ▸ O0.2.1
  show own_Goes p e below (s₁.setTop (entryFrame m #[(.ref xa), (.int (1 : Int32))] 2)) (own_PostN s (Q_own_lnGet1 Z xa xe xk x0 x1 x2 h0 n0) ({ frames := 0, cells := 0, slots := 0, locals := 0 } : Room).cells ({ frames := 0, cells := 0, slots := 0, locals := 0 } : Room).slots)
  refine own_cast (own_ef_own_lnGet1 m xa) ?_
  show own_Goes p e below (s₁.setTop (mkF m 0 #[.val (.ref xa), .val (.int (1 : Int32))] [])) _
  have ltP1 : @LT.lt Nat _ xe h0.size := P1.lt
  refine own_go (fun t_ k_ => XS.aloadN X0.here hx rfl (hb hby own_d21_0) rfl rfl k_) ?_
  show own_Goes p e below (s₁.setTop (mkF m 1 #[.val (.ref xa), .val (.int (1 : Int32))] [(.ref xa)])) _
  obtain ⟨T1, X1, e1, st1⟩ := getF X0 hx hZ hown (host := "") (Or.inl (hw _ (List.mem_of_getElem? (i := 78) rfl))) Via.refl e0 P0 (g := (mkF m 1 #[.val (.ref xa), .val (.int (1 : Int32))] [(.ref xa)])) rfl rfl (hb hby own_d21_1)
  refine own_go st1 ?_
  show own_Goes p e below (T1.setTop (mkF m 4 #[.val (.ref xa), .val (.int (1 : Int32))] [(.ref xe)])) _
  refine own_go (fun t_ k_ => XS.iloadN X1.here hx rfl (hb hby own_d21_4) rfl k_) ?_
  show own_Goes p e below (T1.setTop (mkF m 5 #[.val (.ref xa), .val (.int (1 : Int32))] [(.int (1 : Int32)), (.ref xe)])) _
  obtain ⟨clu2, Aru2, qu2, Szu2, Ngu2, Hsu2, Gsu2⟩ := id P1
  have inu2 : ¬ ((1 : Int32) < 0 ∨ clu2.slots.size ≤ ((1 : Int32)).toNatClampNeg) := inb_of Szu2 ⟨by decide, by decide⟩
  have atu2 : clu2.slots[((1 : Int32)).toNatClampNeg]? = some (.ref x1) := Hsu2.at inu2 rfl
  refine own_go (fun t_ k_ => X1.aaload hx (j := (1 : Int32)) (v := (.ref x1)) (by rw [e1]; exact Aru2.1) (State.isArrayOf_alike hZ.alike Aru2.2.1) rfl Aru2.2.2 inu2 atu2 (g := (mkF m 5 #[.val (.ref xa), .val (.int (1 : Int32))] [(.int (1 : Int32)), (.ref xe)])) rfl rfl (hb hby own_d21_5) _ k_) ?_
  show own_Goes p e below (T1.setTop (mkF m 6 #[.val (.ref xa), .val (.int (1 : Int32))] [(.ref x1)])) _
  refine own_endN X1 (v := (some (.ref x1))) (fun h => by rw [hret] at h; cases h) hlk (by decide) (by decide) ?_ (fun fs hr => retOut X1 hx hret rfl (Or.inr (Or.inr (Or.inr (Or.inr ⟨rfl, rfl, rfl⟩)))) (hb hby own_d21_6) hr)
  show Q_own_lnGet1 Z xa xe xk x0 x1 x2 h0 n0 _ T1.heap _
  rw [e1]
  exact ⟨N0, rfl, rfl⟩
theorem own_ef_own_lnGet2 (m : MethodId) (xa : Addr) : entryFrame m #[(.ref xa), (.int (2 : Int32))] 2 = mkF m 0 #[.val (.ref xa), .val (.int (2 : Int32))] [] := by first | (simp [entryFrame, mkF, argsToLocals, Value.category]; done) | rfl
def Q_own_lnGet2 (Z : State) (xa : Addr) (xe : Addr) (xk : ClassId) (x0 : Addr) (x1 : Addr) (x2 : Addr) (h0 : Heap) (n0 : Nat) (v : Option Value) (h : Heap) (L : List Loc) : Prop := Fr n0 L ∧ h = h0 ∧ v = some (.ref x2)
set_option maxRecDepth 65536 in
set_option maxHeartbeats 40000000 in
theorem own_lnGet2 (l : Launch) (Z : State) (a0 : Array Value) (hw : ∀ d ∈ tables_1, d.before a0 Z = true) (ws : List Jvm.Cond) (xa : Addr) (xe : Addr) (xk : ClassId) (x0 : Addr) (x1 : Addr) (x2 : Addr) (h0 : Heap) (n0 : Nat) (O0 : Old Z n0 h0) (P0 : Fld Z h0 xa "java/util/ImmutableCollections$ListN" "elements" "[Ljava/lang/Object;" (.ref xe)) (P1 : Arv Z h0 xe xk (.object "java/lang/Object") (3 : Int32) [(.ref x0), (.ref x1), (.ref x2)] .null) :
    MetFree l (⟨"java/util/ImmutableCollections$ListN", "get", "(I)Ljava/lang/Object;"⟩ : MethodName) (head1 (Jvm.Cond.code (⟨"java/util/ImmutableCollections$ListN", "get", "(I)Ljava/lang/Object;"⟩ : MethodName) jdk_45_method_4_code 2 (some (.object "java/lang/Object")) :: ws) ({ frames := 0, cells := 0, slots := 0, locals := 0 } : Room)) (fun as_ U_ => as_ = #[(.ref xa), (.int (2 : Int32))] ∧ Z.Warmed39 U_.vm ∧ U_.heap = h0) (fun _ _ _ _ _ => True) (fun _ U_ o_ U2_ => ∃ v_ L_, o_ = .returned v_ ∧ Q_own_lnGet2 Z xa xe xk x0 x1 x2 h0 n0 v_ U2_.heap L_ ∧ FrameEnd U_ o_ U2_ L_ ({ frames := 0, cells := 0, slots := 0, locals := 0 } : Room).cells ({ frames := 0, cells := 0, slots := 0, locals := 0 } : Room).slots) := by
  refine MetFree.of_bodySF (plainFor_of_name own_pn_java_util_ImmutableCollections_ListN) hisR ?_
  intro p e s m args below meth c s₁ Bd hml0 hP hK
  obtain ⟨rfl, hZ, hh⟩ := hP
  have hx := Bd.exec
  have hby := Bd.bytes
  have hml : c.maxLocals = 2 := hml0
  have hown : s.vm.findClass "java/util/ImmutableCollections$ListN" = some m.cls := findClass_of_methodNamed Bd.named
  have hnm := (name_of_methodNamed Bd.named Bd.method).1
  have hlk : meth.locks = false := Bd.notSynchronized
  have hret := Bd.returns
  have X0 : Stand p l e ({ frames := 0, cells := 0, slots := 0, locals := 0 } : Room) s m #[(.ref xa), (.int (2 : Int32))] below meth c s₁ [] 0 0 := Stand.of_body Bd
  have e0 : s₁.heap = h0 := by rw [← hh, Bd.state]; rfl
  have N0 := Fr.nil n0
  have z0 : Z.heap.size = n0 := O0.1
  have z1 : n0 ≤ h0.size := z0 ▸ O0.2.1
  show own_Goes p e below (s₁.setTop (entryFrame m #[(.ref xa), (.int (2 : Int32))] 2)) (own_PostN s (Q_own_lnGet2 Z xa xe xk x0 x1 x2 h0 n0) ({ frames := 0, cells := 0, slots := 0, locals := 0 } : Room).cells ({ frames := 0, cells := 0, slots := 0, locals := 0 } : Room).slots)
  refine own_cast (own_ef_own_lnGet2 m xa) ?_
  show own_Goes p e below (s₁.setTop (mkF m 0 #[.val (.ref xa), .val (.int (2 : Int32))] [])) _
  have ltP1 : @LT.lt Nat _ xe h0.size := P1.lt
  refine own_go (fun t_ k_ => XS.aloadN X0.here hx rfl (hb hby own_d21_0) rfl rfl k_) ?_
  show own_Goes p e below (s₁.setTop (mkF m 1 #[.val (.ref xa), .val (.int (2 : Int32))] [(.ref xa)])) _
  obtain ⟨T1, X1, e1, st1⟩ := getF X0 hx hZ hown (host := "") (Or.inl (hw _ (List.mem_of_getElem? (i := 78) rfl))) Via.refl e0 P0 (g := (mkF m 1 #[.val (.ref xa), .val (.int (2 : Int32))] [(.ref xa)])) rfl rfl (hb hby own_d21_1)
  refine own_go st1 ?_
  show own_Goes p e below (T1.setTop (mkF m 4 #[.val (.ref xa), .val (.int (2 : Int32))] [(.ref xe)])) _
  refine own_go (fun t_ k_ => XS.iloadN X1.here hx rfl (hb hby own_d21_4) rfl k_) ?_
  show own_Goes p e below (T1.setTop (mkF m 5 #[.val (.ref xa), .val (.int (2 : Int32))] [(.int (2 : Int32)), (.ref xe)])) _
  obtain ⟨clu2, Aru2, qu2, Szu2, Ngu2, Hsu2, Gsu2⟩ := id P1
  have inu2 : ¬ ((2 : Int32) < 0 ∨ clu2.slots.size ≤ ((2 : Int32)).toNatClampNeg) := inb_of Szu2 ⟨by decide, by decide⟩
  have atu2 : clu2.slots[((2 : Int32)).toNatClampNeg]? = some (.ref x2) := Hsu2.at inu2 rfl
  refine own_go (fun t_ k_ => X1.aaload hx (j := (2 : Int32)) (v := (.ref x2)) (by rw [e1]; exact Aru2.1) (State.isArrayOf_alike hZ.alike Aru2.2.1) rfl Aru2.2.2 inu2 atu2 (g := (mkF m 5 #[.val (.ref xa), .val (.int (2 : Int32))] [(.int (2 : Int32)), (.ref xe)])) rfl rfl (hb hby own_d21_5) _ k_) ?_
  show own_Goes p e below (T1.setTop (mkF m 6 #[.val (.ref xa), .val (.int (2 : Int32))] [(.ref x2)])) _
  refine own_endN X1 (v := (some (.ref x2))) (fun h => by rw [hret] at h; cases h) hlk (by decide) (by decide) ?_ (fun fs hr => retOut X1 hx hret rfl (Or.inr (Or.inr (Or.inr (Or.inr ⟨rfl, rfl, rfl⟩)))) (hb hby own_d21_6) hr)
  show Q_own_lnGet2 Z xa xe xk x0 x1 x2 h0 n0 _ T1.heap _
  rw [e1]
  exact ⟨N0, rfl, rfl⟩
theorem own_d24_0 : decode jdk_44_method_3_code 0 = .ok (.aload_n 0, 1) := by decide +kernel
theorem own_d24_1 : decode jdk_44_method_3_code 1 = .ok (.getfield 24, 3) := by decide +kernel
theorem own_d24_4 : decode jdk_44_method_3_code 4 = .ok (.getstatic 19, 3) := by decide +kernel
theorem own_d24_7 : decode jdk_44_method_3_code 7 = .ok (.if_acmp .eq 7, 3) := by decide +kernel
theorem own_d24_14 : decode jdk_44_method_3_code 14 = .ok (.iconst 1, 1) := by decide +kernel
theorem own_d24_15 : decode jdk_44_method_3_code 15 = .ok (.ireturn, 1) := by decide +kernel
theorem own_ef_own_l12Size1 (m : MethodId) (xa : Addr) : entryFrame m #[(.ref xa)] 1 = mkF m 0 #[.val (.ref xa)] [] := by first | (simp [entryFrame, mkF, argsToLocals, Value.category]; done) | rfl
def Q_own_l12Size1 (Z : State) (xa : Addr) (gz : Int32) (gwE : Addr) (gwO : Addr) (gwA : Addr) (gk : ClassId) (h0 : Heap) (n0 : Nat) (v : Option Value) (h : Heap) (L : List Loc) : Prop := Fr n0 L ∧ h = h0 ∧ v = some (.int (1 : Int32))
set_option maxRecDepth 65536 in
set_option maxHeartbeats 40000000 in
theorem own_l12Size1 (l : Launch) (Z : State) (a0 : Array Value) (hw : ∀ d ∈ tables_1, d.before a0 Z = true) (ws : List Jvm.Cond) (xa : Addr) (h0 : Heap) (n0 : Nat) (O0 : Old Z n0 h0) (gz : Int32) (gwE : Addr) (gwO : Addr) (gwA : Addr) (gk : ClassId) (G : GG Z gz gwE gwO gwA gk) (P0 : Fld Z h0 xa "java/util/ImmutableCollections$List12" "e1" "Ljava/lang/Object;" (.ref gwO)) :
    MetFree l (⟨"java/util/ImmutableCollections$List12", "size", "()I"⟩ : MethodName) (head1 (Jvm.Cond.code (⟨"java/util/ImmutableCollections$List12", "size", "()I"⟩ : MethodName) jdk_44_method_3_code 1 (some .int) :: ws) ({ frames := 0, cells := 0, slots := 0, locals := 0 } : Room)) (fun as_ U_ => as_ = #[(.ref xa)] ∧ Z.Warmed39 U_.vm ∧ U_.heap = h0) (fun _ _ _ _ _ => True) (fun _ U_ o_ U2_ => ∃ v_ L_, o_ = .returned v_ ∧ Q_own_l12Size1 Z xa gz gwE gwO gwA gk h0 n0 v_ U2_.heap L_ ∧ FrameEnd U_ o_ U2_ L_ ({ frames := 0, cells := 0, slots := 0, locals := 0 } : Room).cells ({ frames := 0, cells := 0, slots := 0, locals := 0 } : Room).slots) := by
  refine MetFree.of_bodySF (plainFor_of_name own_pn_java_util_ImmutableCollections_List12) hisR ?_
  intro p e s m args below meth c s₁ Bd hml0 hP hK
  obtain ⟨rfl, hZ, hh⟩ := hP
  have hx := Bd.exec
  have hby := Bd.bytes
  have hml : c.maxLocals = 1 := hml0
  have hown : s.vm.findClass "java/util/ImmutableCollections$List12" = some m.cls := findClass_of_methodNamed Bd.named
  have hnm := (name_of_methodNamed Bd.named Bd.method).1
  have hlk : meth.locks = false := Bd.notSynchronized
  have hret := Bd.returns
  have X0 : Stand p l e ({ frames := 0, cells := 0, slots := 0, locals := 0 } : Room) s m #[(.ref xa)] below meth c s₁ [] 0 0 := Stand.of_body Bd
  have e0 : s₁.heap = h0 := by rw [← hh, Bd.state]; rfl
  have N0 := Fr.nil n0
  have z0 : Z.heap.size = n0 := O0.1
  have z1 : n0 ≤ h0.size := z0 ▸ O0.2.1
  show own_Goes p e below (s₁.setTop (entryFrame m #[(.ref xa)] 1)) (own_PostN s (Q_own_l12Size1 Z xa gz gwE gwO gwA gk h0 n0) ({ frames := 0, cells := 0, slots := 0, locals := 0 } : Room).cells ({ frames := 0, cells := 0, slots := 0, locals := 0 } : Room).slots)
  refine own_cast (own_ef_own_l12Size1 m xa) ?_
  show own_Goes p e below (s₁.setTop (mkF m 0 #[.val (.ref xa)] [])) _
  obtain ⟨G0, G1, G2, G3, G4, G5, G6, G7⟩ := id G
  have ltG3 : @LT.lt Nat _ gwE Z.heap.size := G3.lt
  have ltG5 : @LT.lt Nat _ gwO Z.heap.size := G5.lt
  have ltG7 : @LT.lt Nat _ gwA Z.heap.size := G7.lt
  refine own_go (fun t_ k_ => XS.aloadN X0.here hx rfl (hb hby own_d24_0) rfl rfl k_) ?_
  show own_Goes p e below (s₁.setTop (mkF m 1 #[.val (.ref xa)] [(.ref xa)])) _
  obtain ⟨T1, X1, e1, st1⟩ := getF X0 hx hZ hown (host := "") (Or.inl (hw _ (List.mem_of_getElem? (i := 147) rfl))) Via.refl e0 P0 (g := (mkF m 1 #[.val (.ref xa)] [(.ref xa)])) rfl rfl (hb hby own_d24_1)
  refine own_go st1 ?_
  show own_Goes p e below (T1.setTop (mkF m 4 #[.val (.ref xa)] [(.ref gwO)])) _
  have q2 := G4.ext O0.2
  obtain ⟨T3, X3, e3, st3⟩ := getS2 X1 hx hZ hown (Or.inr (hw _ (List.mem_of_getElem? (i := 155) rfl))) Via.refl e1 q2 (g := (mkF m 4 #[.val (.ref xa)] [(.ref gwO)])) rfl (hb hby own_d24_4)
  refine own_go st3 ?_
  show own_Goes p e below (T3.setTop (mkF m 7 #[.val (.ref xa)] [(.ref gwO), (.ref gwO)])) _
  refine own_go (fun t_ k_ => Jvm.RoadKit.acmp (g := (mkF m 7 #[.val (.ref xa)] [(.ref gwO), (.ref gwO)])) X3 hx rfl rfl rfl (pc0 := 7) (pc' := 14) (same := true) rfl (hb hby own_d24_7) rfl (decide_eq_true rfl) (by decide) (by decide) k_) ?_
  show own_Goes p e below (T3.setTop (mkF m 14 #[.val (.ref xa)] [])) _
  refine own_go (fun t_ k_ => XS.iconst X3.here hx rfl (hb hby own_d24_14) k_) ?_
  show own_Goes p e below (T3.setTop (mkF m 15 #[.val (.ref xa)] [(.int (1 : Int32))])) _
  refine own_endN X3 (v := (some (.int (1 : Int32)))) (fun h => by rw [hret] at h; cases h) hlk (by decide) (by decide) ?_ (fun fs hr => retOut X3 hx hret rfl (Or.inl ⟨rfl, Or.inl rfl, _, rfl⟩) (hb hby own_d24_15) hr)
  show Q_own_l12Size1 Z xa gz gwE gwO gwA gk h0 n0 _ T3.heap _
  rw [e3]
  exact ⟨N0, rfl, rfl⟩
theorem own_d24_10 : decode jdk_44_method_3_code 10 = .ok (.iconst 2, 1) := by decide +kernel
theorem own_d24_11 : decode jdk_44_method_3_code 11 = .ok (.goto 4, 3) := by decide +kernel
theorem own_ef_own_l12Size2 (m : MethodId) (xa : Addr) : entryFrame m #[(.ref xa)] 1 = mkF m 0 #[.val (.ref xa)] [] := by first | (simp [entryFrame, mkF, argsToLocals, Value.category]; done) | rfl
def Q_own_l12Size2 (Z : State) (xa : Addr) (xv : Addr) (gz : Int32) (gwE : Addr) (gwO : Addr) (gwA : Addr) (gk : ClassId) (h0 : Heap) (n0 : Nat) (v : Option Value) (h : Heap) (L : List Loc) : Prop := Fr n0 L ∧ h = h0 ∧ v = some (.int (2 : Int32))
set_option maxRecDepth 65536 in
set_option maxHeartbeats 40000000 in
theorem own_l12Size2 (l : Launch) (Z : State) (a0 : Array Value) (hw : ∀ d ∈ tables_1, d.before a0 Z = true) (ws : List Jvm.Cond) (xa : Addr) (xv : Addr) (h0 : Heap) (n0 : Nat) (O0 : Old Z n0 h0) (gz : Int32) (gwE : Addr) (gwO : Addr) (gwA : Addr) (gk : ClassId) (G : GG Z gz gwE gwO gwA gk) (P0 : Fld Z h0 xa "java/util/ImmutableCollections$List12" "e1" "Ljava/lang/Object;" (.ref xv)) (P1 : ¬ xv = gwO) :
    MetFree l (⟨"java/util/ImmutableCollections$List12", "size", "()I"⟩ : MethodName) (head1 (Jvm.Cond.code (⟨"java/util/ImmutableCollections$List12", "size", "()I"⟩ : MethodName) jdk_44_method_3_code 1 (some .int) :: ws) ({ frames := 0, cells := 0, slots := 0, locals := 0 } : Room)) (fun as_ U_ => as_ = #[(.ref xa)] ∧ Z.Warmed39 U_.vm ∧ U_.heap = h0) (fun _ _ _ _ _ => True) (fun _ U_ o_ U2_ => ∃ v_ L_, o_ = .returned v_ ∧ Q_own_l12Size2 Z xa xv gz gwE gwO gwA gk h0 n0 v_ U2_.heap L_ ∧ FrameEnd U_ o_ U2_ L_ ({ frames := 0, cells := 0, slots := 0, locals := 0 } : Room).cells ({ frames := 0, cells := 0, slots := 0, locals := 0 } : Room).slots) := by
  refine MetFree.of_bodySF (plainFor_of_name own_pn_java_util_ImmutableCollections_List12) hisR ?_
  intro p e s m args below meth c s₁ Bd hml0 hP hK
  obtain ⟨rfl, hZ, hh⟩ := hP
  have hx := Bd.exec
  have hby := Bd.bytes
  have hml : c.maxLocals = 1 := hml0
  have hown : s.vm.findClass "java/util/ImmutableCollections$List12" = some m.cls := findClass_of_methodNamed Bd.named
  have hnm := (name_of_methodNamed Bd.named Bd.method).1
  have hlk : meth.locks = false := Bd.notSynchronized
  have hret := Bd.returns
  have X0 : Stand p l e ({ frames := 0, cells := 0, slots := 0, locals := 0 } : Room) s m #[(.ref xa)] below meth c s₁ [] 0 0 := Stand.of_body Bd
  have e0 : s₁.heap = h0 := by rw [← hh, Bd.state]; rfl
  have N0 := Fr.nil n0
  have z0 : Z.heap.size = n0 := O0.1
  have z1 : n0 ≤ h0.size := z0 ▸ O0.2.1
  show own_Goes p e below (s₁.setTop (entryFrame m #[(.ref xa)] 1)) (own_PostN s (Q_own_l12Size2 Z xa xv gz gwE gwO gwA gk h0 n0) ({ frames := 0, cells := 0, slots := 0, locals := 0 } : Room).cells ({ frames := 0, cells := 0, slots := 0, locals := 0 } : Room).slots)
  refine own_cast (own_ef_own_l12Size2 m xa) ?_
  show own_Goes p e below (s₁.setTop (mkF m 0 #[.val (.ref xa)] [])) _
  obtain ⟨G0, G1, G2, G3, G4, G5, G6, G7⟩ := id G
  have ltG3 : @LT.lt Nat _ gwE Z.heap.size := G3.lt
  have ltG5 : @LT.lt Nat _ gwO Z.heap.size := G5.lt
  have ltG7 : @LT.lt Nat _ gwA Z.heap.size := G7.lt
  refine own_go (fun t_ k_ => XS.aloadN X0.here hx rfl (hb hby own_d24_0) rfl rfl k_) ?_
  show own_Goes p e below (s₁.setTop (mkF m 1 #[.val (.ref xa)] [(.ref xa)])) _
  obtain ⟨T1, X1, e1, st1⟩ := getF X0 hx hZ hown (host := "") (Or.inl (hw _ (List.mem_of_getElem? (i := 147) rfl))) Via.refl e0 P0 (g := (mkF m 1 #[.val (.ref xa)] [(.ref xa)])) rfl rfl (hb hby own_d24_1)
  refine own_go st1 ?_
  show own_Goes p e below (T1.setTop (mkF m 4 #[.val (.ref xa)] [(.ref xv)])) _
  have q2 := G4.ext O0.2
  obtain ⟨T3, X3, e3, st3⟩ := getS2 X1 hx hZ hown (Or.inr (hw _ (List.mem_of_getElem? (i := 155) rfl))) Via.refl e1 q2 (g := (mkF m 4 #[.val (.ref xa)] [(.ref xv)])) rfl (hb hby own_d24_4)
  refine own_go st3 ?_
  show own_Goes p e below (T3.setTop (mkF m 7 #[.val (.ref xa)] [(.ref gwO), (.ref xv)])) _
  refine own_go (fun t_ k_ => Jvm.RoadKit.acmp (g := (mkF m 7 #[.val (.ref xa)] [(.ref gwO), (.ref xv)])) X3 hx rfl rfl rfl (pc0 := 7) (pc' := 10) (same := false) rfl (hb hby own_d24_7) rfl (decide_eq_false fun q => (show ¬ (xv = gwO) from P1) (Value.ref.inj q)) (by decide) (by decide) k_) ?_
  show own_Goes p e below (T3.setTop (mkF m 10 #[.val (.ref xa)] [])) _
  refine own_go (fun t_ k_ => XS.iconst X3.here hx rfl (hb hby own_d24_10) k_) ?_
  show own_Goes p e below (T3.setTop (mkF m 11 #[.val (.ref xa)] [(.int (2 : Int32))])) _
  refine own_go (fun t_ k_ => XS.goto X3.here hx rfl (pc0 := 11) (pc' := 15) rfl (hb hby own_d24_11) (by decide) (by decide) k_) ?_
  show own_Goes p e below (T3.setTop (mkF m 15 #[.val (.ref xa)] [(.int (2 : Int32))])) _
  refine own_endN X3 (v := (some (.int (2 : Int32)))) (fun h => by rw [hret] at h; cases h) hlk (by decide) (by decide) ?_ (fun fs hr => retOut X3 hx hret rfl (Or.inl ⟨rfl, Or.inl rfl, _, rfl⟩) (hb hby own_d24_15) hr)
  show Q_own_l12Size2 Z xa xv gz gwE gwO gwA gk h0 n0 _ T3.heap _
  rw [e3]
  exact ⟨N0, rfl, rfl⟩
theorem own_d25_0 : decode jdk_44_method_5_code 0 = .ok (.iload_n 1, 1) := by decide +kernel
theorem own_d25_1 : decode jdk_44_method_5_code 1 = .ok (.ifCond .ne 8, 3) := by decide +kernel
theorem own_d25_4 : decode jdk_44_method_5_code 4 = .ok (.aload_n 0, 1) := by decide +kernel
theorem own_d25_5 : decode jdk_44_method_5_code 5 = .ok (.getfield 13, 3) := by decide +kernel
theorem own_d25_8 : decode jdk_44_method_5_code 8 = .ok (.areturn, 1) := by decide +kernel
theorem own_ef_own_l12Get0 (m : MethodId) (xa : Addr) : entryFrame m #[(.ref xa), (.int (0 : Int32))] 2 = mkF m 0 #[.val (.ref xa), .val (.int (0 : Int32))] [] := by first | (simp [entryFrame, mkF, argsToLocals, Value.category]; done) | rfl
def Q_own_l12Get0 (Z : State) (xa : Addr) (xv : Addr) (h0 : Heap) (n0 : Nat) (v : Option Value) (h : Heap) (L : List Loc) : Prop := Fr n0 L ∧ h = h0 ∧ v = some (.ref xv)
set_option maxRecDepth 65536 in
set_option maxHeartbeats 40000000 in
theorem own_l12Get0 (l : Launch) (Z : State) (a0 : Array Value) (hw : ∀ d ∈ tables_1, d.before a0 Z = true) (ws : List Jvm.Cond) (xa : Addr) (xv : Addr) (h0 : Heap) (n0 : Nat) (O0 : Old Z n0 h0) (P0 : Fld Z h0 xa "java/util/ImmutableCollections$List12" "e0" "Ljava/lang/Object;" (.ref xv)) :
    MetFree l (⟨"java/util/ImmutableCollections$List12", "get", "(I)Ljava/lang/Object;"⟩ : MethodName) (head1 (Jvm.Cond.code (⟨"java/util/ImmutableCollections$List12", "get", "(I)Ljava/lang/Object;"⟩ : MethodName) jdk_44_method_5_code 2 (some (.object "java/lang/Object")) :: ws) ({ frames := 0, cells := 0, slots := 0, locals := 0 } : Room)) (fun as_ U_ => as_ = #[(.ref xa), (.int (0 : Int32))] ∧ Z.Warmed39 U_.vm ∧ U_.heap = h0) (fun _ _ _ _ _ => True) (fun _ U_ o_ U2_ => ∃ v_ L_, o_ = .returned v_ ∧ Q_own_l12Get0 Z xa xv h0 n0 v_ U2_.heap L_ ∧ FrameEnd U_ o_ U2_ L_ ({ frames := 0, cells := 0, slots := 0, locals := 0 } : Room).cells ({ frames := 0, cells := 0, slots := 0, locals := 0 } : Room).slots) := by
  refine MetFree.of_bodySF (plainFor_of_name own_pn_java_util_ImmutableCollections_List12) hisR ?_
  intro p e s m args below meth c s₁ Bd hml0 hP hK
  obtain ⟨rfl, hZ, hh⟩ := hP
  have hx := Bd.exec
  have hby := Bd.bytes
  have hml : c.maxLocals = 2 := hml0
  have hown : s.vm.findClass "java/util/ImmutableCollections$List12" = some m.cls := findClass_of_methodNamed Bd.named
  have hnm := (name_of_methodNamed Bd.named Bd.method).1
  have hlk : meth.locks = false := Bd.notSynchronized
  have hret := Bd.returns
  have X0 : Stand p l e ({ frames := 0, cells := 0, slots := 0, locals := 0 } : Room) s m #[(.ref xa), (.int (0 : Int32))] below meth c s₁ [] 0 0 := Stand.of_body Bd
  have e0 : s₁.heap = h0 := by rw [← hh, Bd.state]; rfl
  have N0 := Fr.nil n0
  have z0 : Z.heap.size = n0 := O0.1
  have z1 : n0 ≤ h0.size := z0 ▸ O0.2.1
  show own_Goes p e below (s₁.setTop (entryFrame m #[(.ref xa), (.int (0 : Int32))] 2)) (own_PostN s (Q_own_l12Get0 Z xa xv h0 n0) ({ frames := 0, cells := 0, slots := 0, locals := 0 } : Room).cells ({ frames := 0, cells := 0, slots := 0, locals := 0 } : Room).slots)
  refine own_cast (own_ef_own_l12Get0 m xa) ?_
  show own_Goes p e below (s₁.setTop (mkF m 0 #[.val (.ref xa), .val (.int (0 : Int32))] [])) _
  refine own_go (fun t_ k_ => XS.iloadN X0.here hx rfl (hb hby own_d25_0) rfl k_) ?_
  show own_Goes p e below (s₁.setTop (mkF m 1 #[.val (.ref xa), .val (.int (0 : Int32))] [(.int (0 : Int32))])) _
  refine own_go (fun t_ k_ => XS.ifNo X0.here hx rfl (hb hby own_d25_1) rfl ((if0 _ _).trans (teq (show ((0 : Int32) = (0 : Int32)) from by decide)).2) k_) ?_
  show own_Goes p e below (s₁.setTop (mkF m 4 #[.val (.ref xa), .val (.int (0 : Int32))] [])) _
  refine own_go (fun t_ k_ => XS.aloadN X0.here hx rfl (hb hby own_d25_4) rfl rfl k_) ?_
  show own_Goes p e below (s₁.setTop (mkF m 5 #[.val (.ref xa), .val (.int (0 : Int32))] [(.ref xa)])) _
  obtain ⟨T1, X1, e1, st1⟩ := getF X0 hx hZ hown (host := "") (Or.inl (hw _ (List.mem_of_getElem? (i := 145) rfl))) Via.refl e0 P0 (g := (mkF m 5 #[.val (.ref xa), .val (.int (0 : Int32))] [(.ref xa)])) rfl rfl (hb hby own_d25_5)
  refine own_go st1 ?_
  show own_Goes p e below (T1.setTop (mkF m 8 #[.val (.ref xa), .val (.int (0 : Int32))] [(.ref xv)])) _
  refine own_endN X1 (v := (some (.ref xv))) (fun h => by rw [hret] at h; cases h) hlk (by decide) (by decide) ?_ (fun fs hr => retOut X1 hx hret rfl (Or.inr (Or.inr (Or.inr (Or.inr ⟨rfl, rfl, rfl⟩)))) (hb hby own_d25_8) hr)
  show Q_own_l12Get0 Z xa xv h0 n0 _ T1.heap _
  rw [e1]
  exact ⟨N0, rfl, rfl⟩
theorem own_d25_9 : decode jdk_44_method_5_code 9 = .ok (.iload_n 1, 1) := by decide +kernel
theorem own_d25_10 : decode jdk_44_method_5_code 10 = .ok (.iconst 1, 1) := by decide +kernel
theorem own_d25_11 : decode jdk_44_method_5_code 11 = .ok (.if_icmp .ne 18, 3) := by decide +kernel
theorem own_d25_14 : decode jdk_44_method_5_code 14 = .ok (.aload_n 0, 1) := by decide +kernel
theorem own_d25_15 : decode jdk_44_method_5_code 15 = .ok (.getfield 24, 3) := by decide +kernel
theorem own_d25_18 : decode jdk_44_method_5_code 18 = .ok (.getstatic 19, 3) := by decide +kernel
theorem own_d25_21 : decode jdk_44_method_5_code 21 = .ok (.if_acmp .eq 8, 3) := by decide +kernel
theorem own_d25_24 : decode jdk_44_method_5_code 24 = .ok (.aload_n 0, 1) := by decide +kernel
theorem own_d25_25 : decode jdk_44_method_5_code 25 = .ok (.getfield 24, 3) := by decide +kernel
theorem own_d25_28 : decode jdk_44_method_5_code 28 = .ok (.areturn, 1) := by decide +kernel
theorem own_ef_own_l12Get1 (m : MethodId) (xa : Addr) : entryFrame m #[(.ref xa), (.int (1 : Int32))] 2 = mkF m 0 #[.val (.ref xa), .val (.int (1 : Int32))] [] := by first | (simp [entryFrame, mkF, argsToLocals, Value.category]; done) | rfl
def Q_own_l12Get1 (Z : State) (xa : Addr) (xv : Addr) (gz : Int32) (gwE : Addr) (gwO : Addr) (gwA : Addr) (gk : ClassId) (h0 : Heap) (n0 : Nat) (v : Option Value) (h : Heap) (L : List Loc) : Prop := Fr n0 L ∧ h = h0 ∧ v = some (.ref xv)
set_option maxRecDepth 65536 in
set_option maxHeartbeats 40000000 in
theorem own_l12Get1 (l : Launch) (Z : State) (a0 : Array Value) (hw : ∀ d ∈ tables_1, d.before a0 Z = true) (ws : List Jvm.Cond) (xa : Addr) (xv : Addr) (h0 : Heap) (n0 : Nat) (O0 : Old Z n0 h0) (gz : Int32) (gwE : Addr) (gwO : Addr) (gwA : Addr) (gk : ClassId) (G : GG Z gz gwE gwO gwA gk) (P0 : Fld Z h0 xa "java/util/ImmutableCollections$List12" "e1" "Ljava/lang/Object;" (.ref xv)) (P1 : ¬ xv = gwO) :
    MetFree l (⟨"java/util/ImmutableCollections$List12", "get", "(I)Ljava/lang/Object;"⟩ : MethodName) (head1 (Jvm.Cond.code (⟨"java/util/ImmutableCollections$List12", "get", "(I)Ljava/lang/Object;"⟩ : MethodName) jdk_44_method_5_code 2 (some (.object "java/lang/Object")) :: ws) ({ frames := 0, cells := 0, slots := 0, locals := 0 } : Room)) (fun as_ U_ => as_ = #[(.ref xa), (.int (1 : Int32))] ∧ Z.Warmed39 U_.vm ∧ U_.heap = h0) (fun _ _ _ _ _ => True) (fun _ U_ o_ U2_ => ∃ v_ L_, o_ = .returned v_ ∧ Q_own_l12Get1 Z xa xv gz gwE gwO gwA gk h0 n0 v_ U2_.heap L_ ∧ FrameEnd U_ o_ U2_ L_ ({ frames := 0, cells := 0, slots := 0, locals := 0 } : Room).cells ({ frames := 0, cells := 0, slots := 0, locals := 0 } : Room).slots) := by
  refine MetFree.of_bodySF (plainFor_of_name own_pn_java_util_ImmutableCollections_List12) hisR ?_
  intro p e s m args below meth c s₁ Bd hml0 hP hK
  obtain ⟨rfl, hZ, hh⟩ := hP
  have hx := Bd.exec
  have hby := Bd.bytes
  have hml : c.maxLocals = 2 := hml0
  have hown : s.vm.findClass "java/util/ImmutableCollections$List12" = some m.cls := findClass_of_methodNamed Bd.named
  have hnm := (name_of_methodNamed Bd.named Bd.method).1
  have hlk : meth.locks = false := Bd.notSynchronized
  have hret := Bd.returns
  have X0 : Stand p l e ({ frames := 0, cells := 0, slots := 0, locals := 0 } : Room) s m #[(.ref xa), (.int (1 : Int32))] below meth c s₁ [] 0 0 := Stand.of_body Bd
  have e0 : s₁.heap = h0 := by rw [← hh, Bd.state]; rfl
  have N0 := Fr.nil n0
  have z0 : Z.heap.size = n0 := O0.1
  have z1 : n0 ≤ h0.size := z0 ▸ O0.2.1
  show own_Goes p e below (s₁.setTop (entryFrame m #[(.ref xa), (.int (1 : Int32))] 2)) (own_PostN s (Q_own_l12Get1 Z xa xv gz gwE gwO gwA gk h0 n0) ({ frames := 0, cells := 0, slots := 0, locals := 0 } : Room).cells ({ frames := 0, cells := 0, slots := 0, locals := 0 } : Room).slots)
  refine own_cast (own_ef_own_l12Get1 m xa) ?_
  show own_Goes p e below (s₁.setTop (mkF m 0 #[.val (.ref xa), .val (.int (1 : Int32))] [])) _
  obtain ⟨G0, G1, G2, G3, G4, G5, G6, G7⟩ := id G
  have ltG3 : @LT.lt Nat _ gwE Z.heap.size := G3.lt
  have ltG5 : @LT.lt Nat _ gwO Z.heap.size := G5.lt
  have ltG7 : @LT.lt Nat _ gwA Z.heap.size := G7.lt
  refine own_go (fun t_ k_ => XS.iloadN X0.here hx rfl (hb hby own_d25_0) rfl k_) ?_
  show own_Goes p e below (s₁.setTop (mkF m 1 #[.val (.ref xa), .val (.int (1 : Int32))] [(.int (1 : Int32))])) _
  refine own_go (fun t_ k_ => XS.ifYes X0.here hx rfl (pc0 := 1) (pc' := 9) rfl (hb hby own_d25_1) rfl ((if0 _ _).trans (feq (show ¬ ((1 : Int32) = (0 : Int32)) from by decide)).2) (by decide) (by decide) k_) ?_
  show own_Goes p e below (s₁.setTop (mkF m 9 #[.val (.ref xa), .val (.int (1 : Int32))] [])) _
  refine own_go (fun t_ k_ => XS.iloadN X0.here hx rfl (hb hby own_d25_9) rfl k_) ?_
  show own_Goes p e below (s₁.setTop (mkF m 10 #[.val (.ref xa), .val (.int (1 : Int32))] [(.int (1 : Int32))])) _
  refine own_go (fun t_ k_ => XS.iconst X0.here hx rfl (hb hby own_d25_10) k_) ?_
  show own_Goes p e below (s₁.setTop (mkF m 11 #[.val (.ref xa), .val (.int (1 : Int32))] [(.int (1 : Int32)), (.int (1 : Int32))])) _
  refine own_go (fun t_ k_ => XS.icmpNo X0.here hx rfl (hb hby own_d25_11) rfl (teq (show ((1 : Int32) = (1 : Int32)) from by decide)).2 k_) ?_
  show own_Goes p e below (s₁.setTop (mkF m 14 #[.val (.ref xa), .val (.int (1 : Int32))] [])) _
  refine own_go (fun t_ k_ => XS.aloadN X0.here hx rfl (hb hby own_d25_14) rfl rfl k_) ?_
  show own_Goes p e below (s₁.setTop (mkF m 15 #[.val (.ref xa), .val (.int (1 : Int32))] [(.ref xa)])) _
  obtain ⟨T1, X1, e1, st1⟩ := getF X0 hx hZ hown (host := "") (Or.inl (hw _ (List.mem_of_getElem? (i := 147) rfl))) Via.refl e0 P0 (g := (mkF m 15 #[.val (.ref xa), .val (.int (1 : Int32))] [(.ref xa)])) rfl rfl (hb hby own_d25_15)
  refine own_go st1 ?_
  show own_Goes p e below (T1.setTop (mkF m 18 #[.val (.ref xa), .val (.int (1 : Int32))] [(.ref xv)])) _
  have q2 := G4.ext O0.2
  obtain ⟨T3, X3, e3, st3⟩ := getS2 X1 hx hZ hown (Or.inr (hw _ (List.mem_of_getElem? (i := 155) rfl))) Via.refl e1 q2 (g := (mkF m 18 #[.val (.ref xa), .val (.int (1 : Int32))] [(.ref xv)])) rfl (hb hby own_d25_18)
  refine own_go st3 ?_
  show own_Goes p e below (T3.setTop (mkF m 21 #[.val (.ref xa), .val (.int (1 : Int32))] [(.ref gwO), (.ref xv)])) _
  refine own_go (fun t_ k_ => Jvm.RoadKit.acmp (g := (mkF m 21 #[.val (.ref xa), .val (.int (1 : Int32))] [(.ref gwO), (.ref xv)])) X3 hx rfl rfl rfl (pc0 := 21) (pc' := 24) (same := false) rfl (hb hby own_d25_21) rfl (decide_eq_false fun q => (show ¬ (xv = gwO) from P1) (Value.ref.inj q)) (by decide) (by decide) k_) ?_
  show own_Goes p e below (T3.setTop (mkF m 24 #[.val (.ref xa), .val (.int (1 : Int32))] [])) _
  refine own_go (fun t_ k_ => XS.aloadN X3.here hx rfl (hb hby own_d25_24) rfl rfl k_) ?_
  show own_Goes p e below (T3.setTop (mkF m 25 #[.val (.ref xa), .val (.int (1 : Int32))] [(.ref xa)])) _
  obtain ⟨T4, X4, e4, st4⟩ := getF X3 hx hZ hown (host := "") (Or.inl (hw _ (List.mem_of_getElem? (i := 147) rfl))) Via.refl e3 P0 (g := (mkF m 25 #[.val (.ref xa), .val (.int (1 : Int32))] [(.ref xa)])) rfl rfl (hb hby own_d25_25)
  refine own_go st4 ?_
  show own_Goes p e below (T4.setTop (mkF m 28 #[.val (.ref xa), .val (.int (1 : Int32))] [(.ref xv)])) _
  refine own_endN X4 (v := (some (.ref xv))) (fun h => by rw [hret] at h; cases h) hlk (by decide) (by decide) ?_ (fun fs hr => retOut X4 hx hret rfl (Or.inr (Or.inr (Or.inr (Or.inr ⟨rfl, rfl, rfl⟩)))) (hb hby own_d25_28) hr)
  show Q_own_l12Get1 Z xa xv gz gwE gwO gwA gk h0 n0 _ T4.heap _
  rw [e4]
  exact ⟨N0, rfl, rfl⟩
theorem own_d22_0 : decode jdk_42_method_66_code 0 = .ok (.aload_n 0, 1) := by decide +kernel
theorem own_d22_1 : decode jdk_42_method_66_code 1 = .ok (.aload_n 1, 1) := by decide +kernel
theorem own_d22_2 : decode jdk_42_method_66_code 2 = .ok (.if_acmp .ne 5, 3) := by decide +kernel
theorem own_d22_5 : decode jdk_42_method_66_code 5 = .ok (.iconst 1, 1) := by decide +kernel
theorem own_d22_6 : decode jdk_42_method_66_code 6 = .ok (.ireturn, 1) := by decide +kernel
theorem own_ef_own_eqSelf (m : MethodId) (xa : Addr) : entryFrame m #[(.ref xa), (.ref xa)] 3 = mkF m 0 #[.val (.ref xa), .val (.ref xa), .unset] [] := by first | (simp [entryFrame, mkF, argsToLocals, Value.category]; done) | rfl
def Q_own_eqSelf (Z : State) (xa : Addr) (h0 : Heap) (n0 : Nat) (v : Option Value) (h : Heap) (L : List Loc) : Prop := Fr n0 L ∧ h = h0 ∧ v = some (.int (1 : Int32))
set_option maxRecDepth 65536 in
set_option maxHeartbeats 40000000 in
theorem own_eqSelf (l : Launch) (Z : State) (a0 : Array Value) (hw : ∀ d ∈ tables_1, d.before a0 Z = true) (ws : List Jvm.Cond) (xa : Addr) (h0 : Heap) (n0 : Nat) (O0 : Old Z n0 h0) :
    MetFree l (⟨"java/lang/String", "equals", "(Ljava/lang/Object;)Z"⟩ : MethodName) (head1 (Jvm.Cond.code (⟨"java/lang/String", "equals", "(Ljava/lang/Object;)Z"⟩ : MethodName) jdk_42_method_66_code 3 (some .boolean) :: ws) ({ frames := 0, cells := 0, slots := 0, locals := 0 } : Room)) (fun as_ U_ => as_ = #[(.ref xa), (.ref xa)] ∧ Z.Warmed39 U_.vm ∧ U_.heap = h0) (fun _ _ _ _ _ => True) (fun _ U_ o_ U2_ => ∃ v_ L_, o_ = .returned v_ ∧ Q_own_eqSelf Z xa h0 n0 v_ U2_.heap L_ ∧ FrameEnd U_ o_ U2_ L_ ({ frames := 0, cells := 0, slots := 0, locals := 0 } : Room).cells ({ frames := 0, cells := 0, slots := 0, locals := 0 } : Room).slots) := by
  refine MetFree.of_bodySF (plainFor_of_name own_pn_java_lang_String) hisR ?_
  intro p e s m args below meth c s₁ Bd hml0 hP hK
  obtain ⟨rfl, hZ, hh⟩ := hP
  have hx := Bd.exec
  have hby := Bd.bytes
  have hml : c.maxLocals = 3 := hml0
  have hown : s.vm.findClass "java/lang/String" = some m.cls := findClass_of_methodNamed Bd.named
  have hnm := (name_of_methodNamed Bd.named Bd.method).1
  have hlk : meth.locks = false := Bd.notSynchronized
  have hret := Bd.returns
  have X0 : Stand p l e ({ frames := 0, cells := 0, slots := 0, locals := 0 } : Room) s m #[(.ref xa), (.ref xa)] below meth c s₁ [] 0 0 := Stand.of_body Bd
  have e0 : s₁.heap = h0 := by rw [← hh, Bd.state]; rfl
  have N0 := Fr.nil n0
  have z0 : Z.heap.size = n0 := O0.1
  have z1 : n0 ≤ h0.size := z0 ▸ O0.2.1
  show own_Goes p e below (s₁.setTop (entryFrame m #[(.ref xa), (.ref xa)] 3)) (own_PostN s (Q_own_eqSelf Z xa h0 n0) ({ frames := 0, cells := 0, slots := 0, locals := 0 } : Room).cells ({ frames := 0, cells := 0, slots := 0, locals := 0 } : Room).slots)
  refine own_cast (own_ef_own_eqSelf m xa) ?_
  show own_Goes p e below (s₁.setTop (mkF m 0 #[.val (.ref xa), .val (.ref xa), .unset] [])) _
  refine own_go (fun t_ k_ => XS.aloadN X0.here hx rfl (hb hby own_d22_0) rfl rfl k_) ?_
  show own_Goes p e below (s₁.setTop (mkF m 1 #[.val (.ref xa), .val (.ref xa), .unset] [(.ref xa)])) _
  refine own_go (fun t_ k_ => XS.aloadN X0.here hx rfl (hb hby own_d22_1) rfl rfl k_) ?_
  show own_Goes p e below (s₁.setTop (mkF m 2 #[.val (.ref xa), .val (.ref xa), .unset] [(.ref xa), (.ref xa)])) _
  refine own_go (fun t_ k_ => Jvm.RoadKit.acmp (g := (mkF m 2 #[.val (.ref xa), .val (.ref xa), .unset] [(.ref xa), (.ref xa)])) X0 hx rfl rfl rfl (pc0 := 2) (pc' := 5) (same := true) rfl (hb hby own_d22_2) rfl (decide_eq_true rfl) (by decide) (by decide) k_) ?_
  show own_Goes p e below (s₁.setTop (mkF m 5 #[.val (.ref xa), .val (.ref xa), .unset] [])) _
  refine own_go (fun t_ k_ => XS.iconst X0.here hx rfl (hb hby own_d22_5) k_) ?_
  show own_Goes p e below (s₁.setTop (mkF m 6 #[.val (.ref xa), .val (.ref xa), .unset] [(.int (1 : Int32))])) _
  refine own_endN X0 (v := (some (.int (1 : Int32)))) (fun h => by rw [hret] at h; cases h) hlk (by decide) (by decide) ?_ (fun fs hr => retOut X0 hx hret rfl (Or.inl ⟨rfl, Or.inr (Or.inl rfl), _, rfl⟩) (hb hby own_d22_6) hr)
  show Q_own_eqSelf Z xa h0 n0 _ s₁.heap _
  rw [e0]
  exact ⟨N0, rfl, rfl⟩
theorem own_pd_23 : parseMethodDescriptor "(I)Ljava/lang/String;" = some ⟨[.int], some (.object "java/lang/String")⟩ := by decide +kernel
abbrev own_m24 : MethodName := ⟨"com/example/saasy/saasy/ledger/SchemaStepOfPinLaw", "str", "(I)Ljava/lang/String;"⟩
theorem own_pd_25 : parseMethodDescriptor "([Ljava/lang/String;)Lcom/example/saasy/saasy/ledger/SchemaStep;" = some ⟨[(.array (.object "java/lang/String"))], some (.object "com/example/saasy/saasy/ledger/SchemaStep")⟩ := by decide +kernel
abbrev own_m26 : MethodName := ⟨"com/example/saasy/saasy/ledger/SchemaStep", "of", "([Ljava/lang/String;)Lcom/example/saasy/saasy/ledger/SchemaStep;"⟩
abbrev own_m27 : MethodName := ⟨"com/example/saasy/saasy/ledger/SchemaStep", "statements", "()Ljava/util/List;"⟩
abbrev own_m28 : MethodName := ⟨"com/example/saasy/saasy/ledger/SchemaStep", "rewritten", "()Ljava/util/List;"⟩
theorem own_pd_29 : parseMethodDescriptor "()I" = some ⟨[], some .int⟩ := by decide +kernel
abbrev own_m30 : MethodName := ⟨"java/util/List", "size", "()I"⟩
abbrev own_m31 : MethodName := ⟨"java/util/ImmutableCollections$ListN", "size", "()I"⟩
abbrev own_m32 : MethodName := ⟨"java/util/ImmutableCollections$List12", "size", "()I"⟩
theorem own_pd_33 : parseMethodDescriptor "(I)Ljava/lang/Object;" = some ⟨[.int], some (.object "java/lang/Object")⟩ := by decide +kernel
abbrev own_m34 : MethodName := ⟨"java/util/List", "get", "(I)Ljava/lang/Object;"⟩
abbrev own_m35 : MethodName := ⟨"java/util/ImmutableCollections$List12", "get", "(I)Ljava/lang/Object;"⟩
theorem own_pd_36 : parseMethodDescriptor "(Ljava/lang/Object;)Z" = some ⟨[(.object "java/lang/Object")], some .boolean⟩ := by decide +kernel
abbrev own_m37 : MethodName := ⟨"java/lang/String", "equals", "(Ljava/lang/Object;)Z"⟩
abbrev own_m38 : MethodName := ⟨"java/util/ImmutableCollections$ListN", "get", "(I)Ljava/lang/Object;"⟩
theorem own_ef_rm0 (m : MethodId) (x0 : Int32) (x1 : Int32) (x2 : Int32) (x3 : Int32) : entryFrame m #[(.int x0), (.int x1), (.int x2), (.int x3)] maxLocals = mkF m 0 #[.val (.int x0), .val (.int x1), .val (.int x2), .val (.int x3), .unset, .unset, .unset, .unset, .unset, .unset, .unset] [] := by first | (simp [entryFrame, mkF, argsToLocals, Value.category, maxLocals]; done) | rfl
def Q_rm0 (Z : State) (x0 : Int32) (x1 : Int32) (x2 : Int32) (x3 : Int32) (gz : Int32) (gwE : Addr) (gwO : Addr) (gwA : Addr) (gk : ClassId) (h0 : Heap) (n0 : Nat) (v : Option Value) (h : Heap) (L : List Loc) : Prop := Fr n0 L ∧ True ∧ v = some (.int (1 : Int32))
set_option maxRecDepth 65536 in
set_option maxHeartbeats 40000000 in
theorem rm0 (l : Launch) (Z : State) (a0 : Array Value) (hw : ∀ d ∈ tables_1, d.before a0 Z = true) (ws : List Jvm.Cond) (x0 : Int32) (x1 : Int32) (x2 : Int32) (x3 : Int32) (h0 : Heap) (n0 : Nat) (O0 : Old Z n0 h0) (gz : Int32) (gwE : Addr) (gwO : Addr) (gwA : Addr) (gk : ClassId) (G : GG Z gz gwE gwO gwA gk) :
    MetFree l x (head1 (Jvm.Cond.code x code maxLocals ret :: ws) room_1) (fun as_ U_ => as_ = #[(.int x0), (.int x1), (.int x2), (.int x3)] ∧ Z.Warmed39 U_.vm ∧ U_.heap = h0 ∧ CHv Z consts_1 U_.vm h0) (fun _ _ _ _ _ => True) (fun _ U_ o_ U2_ => ∃ v_ L_, o_ = .returned v_ ∧ Q_rm0 Z x0 x1 x2 x3 gz gwE gwO gwA gk h0 n0 v_ U2_.heap L_ ∧ CHr Z consts_1 U_.vm U_.heap U2_.vm U2_.heap ∧ ReturnedEndW U_ o_ U2_ L_ room_1.cells room_1.slots) := by
  refine MetFree.of_bodySF (plainFor_of_name own_pn_com_example_saasy_saasy_ledger_SchemaStepOfPinLaw) hisR ?_
  intro p e s m args below meth c s₁ Bd hml0 hP hK
  obtain ⟨rfl, hZ, hh, hC0⟩ := hP
  have hx := Bd.exec
  have hby := Bd.bytes
  have hml : c.maxLocals = 11 := hml0
  have hown : s.vm.findClass "com/example/saasy/saasy/ledger/SchemaStepOfPinLaw" = some m.cls := findClass_of_methodNamed Bd.named
  have hnm := (name_of_methodNamed Bd.named Bd.method).1
  have hlk : meth.locks = false := Bd.notSynchronized
  have hret := Bd.returns
  have X0 : Stand p l e room_1 s m #[(.int x0), (.int x1), (.int x2), (.int x3)] below meth c s₁ [] 0 0 := Stand.of_body Bd
  have e0 : s₁.heap = h0 := by rw [← hh, Bd.state]; rfl
  have N0 := Fr.nil n0
  have z0 : Z.heap.size = n0 := O0.1
  have z1 : n0 ≤ h0.size := z0 ▸ O0.2.1
  have hS0 : s.Since s.vm 0 := (State.WarmedH.refl s).since 0
  have hk0 : 0 ≤ h0.size := Nat.zero_le _
  replace X0 : Stand p l e room_1 (s.setVm s.vm) m #[(.int x0), (.int x1), (.int x2), (.int x3)] below meth c s₁ [] 0 0 := X0
  have CR0 := CHr.refl hC0
  show own_Goes p e below (s₁.setTop (entryFrame m #[(.int x0), (.int x1), (.int x2), (.int x3)] maxLocals)) (own_PostH Z consts_1 s (Q_rm0 Z x0 x1 x2 x3 gz gwE gwO gwA gk h0 n0) room_1.cells room_1.slots)
  refine own_cast (own_ef_rm0 m x0 x1 x2 x3) ?_
  show own_Goes p e below (s₁.setTop (mkF m 0 #[.val (.int x0), .val (.int x1), .val (.int x2), .val (.int x3), .unset, .unset, .unset, .unset, .unset, .unset, .unset] [])) _
  obtain ⟨G0, G1, G2, G3, G4, G5, G6, G7⟩ := id G
  have ltG3 : @LT.lt Nat _ gwE Z.heap.size := G3.lt
  have ltG5 : @LT.lt Nat _ gwO Z.heap.size := G5.lt
  have ltG7 : @LT.lt Nat _ gwA Z.heap.size := G7.lt
  refine own_go (fun t_ k_ => XS.iloadN X0.here hx rfl (hb hby at_0) rfl k_) ?_
  show own_Goes p e below (s₁.setTop (mkF m 1 #[.val (.int x0), .val (.int x1), .val (.int x2), .val (.int x3), .unset, .unset, .unset, .unset, .unset, .unset, .unset] [(.int x0)])) _
  refine own_go (fun t_ k_ => XS.iconst X0.here hx rfl (hb hby at_1) k_) ?_
  show own_Goes p e below (s₁.setTop (mkF m 2 #[.val (.int x0), .val (.int x1), .val (.int x2), .val (.int x3), .unset, .unset, .unset, .unset, .unset, .unset, .unset] [(.int (3 : Int32)), (.int x0)])) _
  refine own_go (fun t_ k_ => XS.iand X0.here hx rfl (hb hby at_2) rfl k_) ?_
  show own_Goes p e below (s₁.setTop (mkF m 3 #[.val (.int x0), .val (.int x1), .val (.int x2), .val (.int x3), .unset, .unset, .unset, .unset, .unset, .unset, .unset] [(.int (x0 &&& (3 : Int32)))])) _
  refine own_go (fun t_ k_ => XS.istore X0.here hx rfl (hb hby at_3) rfl (l' := #[.val (.int x0), .val (.int x1), .val (.int x2), .val (.int x3), .val (.int (x0 &&& (3 : Int32))), .unset, .unset, .unset, .unset, .unset, .unset]) rfl k_) ?_
  show own_Goes p e below (s₁.setTop (mkF m 5 #[.val (.int x0), .val (.int x1), .val (.int x2), .val (.int x3), .val (.int (x0 &&& (3 : Int32))), .unset, .unset, .unset, .unset, .unset, .unset] [])) _
  refine own_go (fun t_ k_ => XS.iloadN X0.here hx rfl (hb hby at_5) rfl k_) ?_
  show own_Goes p e below (s₁.setTop (mkF m 6 #[.val (.int x0), .val (.int x1), .val (.int x2), .val (.int x3), .val (.int (x0 &&& (3 : Int32))), .unset, .unset, .unset, .unset, .unset, .unset] [(.int x1)])) _
  obtain ⟨_, _, ⟨T1, L1, k1, n1⟩, -, X1, hS1, gr1, ⟨Lc1, hQ1, l1, y1, z1, cs1⟩, st1⟩ := Jvm.RoadKit.callSS X0 hx (y := own_m24) hown (mvT hZ (hw _ (List.mem_of_getElem? (i := 0) rfl))) (mvT hZ (hw _ (List.mem_of_getElem? (i := 1) rfl))) (mvT hZ (hw _ (List.mem_of_getElem? (i := 2) rfl))) (mvT hZ (hw _ (List.mem_of_getElem? (i := 3) rfl))) (by decide) (backOfSH (W := 0) (own_str l Z a0 hw [] x1 h0 n0 O0 gz gwE gwO gwA gk G) hZ (hw _ (List.mem_of_getElem? (i := 3) rfl)) (hw _ (List.mem_of_getElem? (i := 2) rfl)) (by decide) (by decide) (own_EW hw) CR0.1) (g := (mkF m 6 #[.val (.int x0), .val (.int x1), .val (.int x2), .val (.int x3), .val (.int (x0 &&& (3 : Int32))), .unset, .unset, .unset, .unset, .unset, .unset] [(.int x1)])) rfl (by rw [hml]; rfl) (argsL := [(.int x1)]) (rest := []) (lenOf own_pd_23 rfl) rfl (by show 2 * 0 + _ ≤ _; exact Nat.le_of_eq rfl) (hb hby at_6) (fun _ _ => ⟨rfl, e0, (by decide : 0 + 6 ≤ _), (by decide : 0 + 12 ≤ _)⟩)
  dsimp only [Pt.U, Pt.locs, Pt.cells, Pt.slots] at X1 l1 y1 z1 st1 hQ1 hS1 gr1 cs1
  subst l1 y1 z1
  obtain ⟨h1, e1⟩ : ∃ z, T1.heap = z := ⟨_, rfl⟩
  rw [e1] at hQ1 hS1 gr1 cs1
  obtain ⟨Nc1, Kc1, r_1, rfl, c1_0, c1_1⟩ := hQ1
  obtain ⟨X1, hS1, hZ1, hown1⟩ := rebS (own := "com/example/saasy/saasy/ledger/SchemaStepOfPinLaw") hS0 (show _ ≤ s₁.heap.size by rw [e0]; exact hk0) X1 hS1 gr1 hZ hown
  have hk1 : h1.size ≤ h1.size := Nat.le_refl _
  have N1 := Fr.app N0 Nc1
  have O2 := O0.keep Kc1 all0
  have sz3 : h0.size ≤ h1.size := Kc1.1
  have CR4 := CHr.trans CR0 cs1
  have ltc1_0 : @LT.lt Nat _ r_1 h1.size := c1_0.lt
  refine own_goS st1 ?_
  show own_Goes p e below (T1.setTop (mkF m 9 #[.val (.int x0), .val (.int x1), .val (.int x2), .val (.int x3), .val (.int (x0 &&& (3 : Int32))), .unset, .unset, .unset, .unset, .unset, .unset] [(.ref r_1)])) _
  refine own_go (fun t_ k_ => XS.astore X1.here hx rfl (hb hby at_9) rfl rfl (l' := #[.val (.int x0), .val (.int x1), .val (.int x2), .val (.int x3), .val (.int (x0 &&& (3 : Int32))), .val (.ref r_1), .unset, .unset, .unset, .unset, .unset]) rfl k_) ?_
  show own_Goes p e below (T1.setTop (mkF m 11 #[.val (.int x0), .val (.int x1), .val (.int x2), .val (.int x3), .val (.int (x0 &&& (3 : Int32))), .val (.ref r_1), .unset, .unset, .unset, .unset, .unset] [])) _
  refine own_go (fun t_ k_ => XS.iloadN X1.here hx rfl (hb hby at_11) rfl k_) ?_
  show own_Goes p e below (T1.setTop (mkF m 12 #[.val (.int x0), .val (.int x1), .val (.int x2), .val (.int x3), .val (.int (x0 &&& (3 : Int32))), .val (.ref r_1), .unset, .unset, .unset, .unset, .unset] [(.int x2)])) _
  obtain ⟨_, _, ⟨T5, L5, k5, n5⟩, -, X5, hS5, gr5, ⟨Lc5, hQ5, l5, y5, z5, cs5⟩, st5⟩ := Jvm.RoadKit.callSS X1 hx (y := own_m24) hown1 (mvT hZ1 (hw _ (List.mem_of_getElem? (i := 0) rfl))) (mvT hZ1 (hw _ (List.mem_of_getElem? (i := 1) rfl))) (mvT hZ1 (hw _ (List.mem_of_getElem? (i := 2) rfl))) (mvT hZ1 (hw _ (List.mem_of_getElem? (i := 3) rfl))) (by decide) (backOfSH (W := 0) (own_str l Z a0 hw [] x2 h1 n0 O2 gz gwE gwO gwA gk G) hZ1 (hw _ (List.mem_of_getElem? (i := 3) rfl)) (hw _ (List.mem_of_getElem? (i := 2) rfl)) (by decide) (by decide) (own_EW hw) CR4.1) (g := (mkF m 12 #[.val (.int x0), .val (.int x1), .val (.int x2), .val (.int x3), .val (.int (x0 &&& (3 : Int32))), .val (.ref r_1), .unset, .unset, .unset, .unset, .unset] [(.int x2)])) rfl (by rw [hml]; rfl) (argsL := [(.int x2)]) (rest := []) (lenOf own_pd_23 rfl) rfl (by show 2 * 0 + _ ≤ _; exact Nat.le_of_eq rfl) (hb hby at_12) (fun _ _ => ⟨rfl, e1, (by decide : 6 + 6 ≤ _), (by decide : 12 + 12 ≤ _)⟩)
  dsimp only [Pt.U, Pt.locs, Pt.cells, Pt.slots] at X5 l5 y5 z5 st5 hQ5 hS5 gr5 cs5
  subst l5 y5 z5
  obtain ⟨h5, e5⟩ : ∃ z, T5.heap = z := ⟨_, rfl⟩
  rw [e5] at hQ5 hS5 gr5 cs5
  obtain ⟨Nc5, Kc5, r_5, rfl, c5_0, c5_1⟩ := hQ5
  obtain ⟨X5, hS5, hZ5, hown5⟩ := rebS (own := "com/example/saasy/saasy/ledger/SchemaStepOfPinLaw") hS1 (show _ ≤ T1.heap.size by rw [e1]; exact hk1) X5 hS5 gr5 hZ1 hown1
  have hk5 : h5.size ≤ h5.size := Nat.le_refl _
  have N5 := Fr.app N1 Nc5
  have O6 := O2.keep Kc5 all0
  have sz7 : h1.size ≤ h5.size := Kc5.1
  have CR8 := CHr.trans CR4 cs5
  have ltc5_0 : @LT.lt Nat _ r_5 h5.size := c5_0.lt
  refine own_goS st5 ?_
  show own_Goes p e below (T5.setTop (mkF m 15 #[.val (.int x0), .val (.int x1), .val (.int x2), .val (.int x3), .val (.int (x0 &&& (3 : Int32))), .val (.ref r_1), .unset, .unset, .unset, .unset, .unset] [(.ref r_5)])) _
  refine own_go (fun t_ k_ => XS.astore X5.here hx rfl (hb hby at_15) rfl rfl (l' := #[.val (.int x0), .val (.int x1), .val (.int x2), .val (.int x3), .val (.int (x0 &&& (3 : Int32))), .val (.ref r_1), .val (.ref r_5), .unset, .unset, .unset, .unset]) rfl k_) ?_
  show own_Goes p e below (T5.setTop (mkF m 17 #[.val (.int x0), .val (.int x1), .val (.int x2), .val (.int x3), .val (.int (x0 &&& (3 : Int32))), .val (.ref r_1), .val (.ref r_5), .unset, .unset, .unset, .unset] [])) _
  refine own_go (fun t_ k_ => XS.iloadN X5.here hx rfl (hb hby at_17) rfl k_) ?_
  show own_Goes p e below (T5.setTop (mkF m 18 #[.val (.int x0), .val (.int x1), .val (.int x2), .val (.int x3), .val (.int (x0 &&& (3 : Int32))), .val (.ref r_1), .val (.ref r_5), .unset, .unset, .unset, .unset] [(.int x3)])) _
  obtain ⟨_, _, ⟨T9, L9, k9, n9⟩, -, X9, hS9, gr9, ⟨Lc9, hQ9, l9, y9, z9, cs9⟩, st9⟩ := Jvm.RoadKit.callSS X5 hx (y := own_m24) hown5 (mvT hZ5 (hw _ (List.mem_of_getElem? (i := 0) rfl))) (mvT hZ5 (hw _ (List.mem_of_getElem? (i := 1) rfl))) (mvT hZ5 (hw _ (List.mem_of_getElem? (i := 2) rfl))) (mvT hZ5 (hw _ (List.mem_of_getElem? (i := 3) rfl))) (by decide) (backOfSH (W := 0) (own_str l Z a0 hw [] x3 h5 n0 O6 gz gwE gwO gwA gk G) hZ5 (hw _ (List.mem_of_getElem? (i := 3) rfl)) (hw _ (List.mem_of_getElem? (i := 2) rfl)) (by decide) (by decide) (own_EW hw) CR8.1) (g := (mkF m 18 #[.val (.int x0), .val (.int x1), .val (.int x2), .val (.int x3), .val (.int (x0 &&& (3 : Int32))), .val (.ref r_1), .val (.ref r_5), .unset, .unset, .unset, .unset] [(.int x3)])) rfl (by rw [hml]; rfl) (argsL := [(.int x3)]) (rest := []) (lenOf own_pd_23 rfl) rfl (by show 2 * 0 + _ ≤ _; exact Nat.le_of_eq rfl) (hb hby at_18) (fun _ _ => ⟨rfl, e5, (by decide : 12 + 6 ≤ _), (by decide : 24 + 12 ≤ _)⟩)
  dsimp only [Pt.U, Pt.locs, Pt.cells, Pt.slots] at X9 l9 y9 z9 st9 hQ9 hS9 gr9 cs9
  subst l9 y9 z9
  obtain ⟨h9, e9⟩ : ∃ z, T9.heap = z := ⟨_, rfl⟩
  rw [e9] at hQ9 hS9 gr9 cs9
  obtain ⟨Nc9, Kc9, r_9, rfl, c9_0, c9_1⟩ := hQ9
  obtain ⟨X9, hS9, hZ9, hown9⟩ := rebS (own := "com/example/saasy/saasy/ledger/SchemaStepOfPinLaw") hS5 (show _ ≤ T5.heap.size by rw [e5]; exact hk5) X9 hS9 gr9 hZ5 hown5
  have hk9 : h9.size ≤ h9.size := Nat.le_refl _
  have N9 := Fr.app N5 Nc9
  have O10 := O6.keep Kc9 all0
  have sz11 : h5.size ≤ h9.size := Kc9.1
  have CR12 := CHr.trans CR8 cs9
  have ltc9_0 : @LT.lt Nat _ r_9 h9.size := c9_0.lt
  refine own_goS st9 ?_
  show own_Goes p e below (T9.setTop (mkF m 21 #[.val (.int x0), .val (.int x1), .val (.int x2), .val (.int x3), .val (.int (x0 &&& (3 : Int32))), .val (.ref r_1), .val (.ref r_5), .unset, .unset, .unset, .unset] [(.ref r_9)])) _
  refine own_go (fun t_ k_ => XS.astore X9.here hx rfl (hb hby at_21) rfl rfl (l' := #[.val (.int x0), .val (.int x1), .val (.int x2), .val (.int x3), .val (.int (x0 &&& (3 : Int32))), .val (.ref r_1), .val (.ref r_5), .val (.ref r_9), .unset, .unset, .unset]) rfl k_) ?_
  show own_Goes p e below (T9.setTop (mkF m 23 #[.val (.int x0), .val (.int x1), .val (.int x2), .val (.int x3), .val (.int (x0 &&& (3 : Int32))), .val (.ref r_1), .val (.ref r_5), .val (.ref r_9), .unset, .unset, .unset] [])) _
  rcases own_and3 x0 with hl13 | hl14 | hl15 | hl16
  · rw [hl13]
    show own_Goes p e below (T9.setTop (mkF m 23 #[.val (.int x0), .val (.int x1), .val (.int x2), .val (.int x3), .val (.int (0 : Int32)), .val (.ref r_1), .val (.ref r_5), .val (.ref r_9), .unset, .unset, .unset] [])) _
    refine own_go (fun t_ k_ => XS.iload X9.here hx rfl (hb hby at_23) rfl k_) ?_
    show own_Goes p e below (T9.setTop (mkF m 25 #[.val (.int x0), .val (.int x1), .val (.int x2), .val (.int x3), .val (.int (0 : Int32)), .val (.ref r_1), .val (.ref r_5), .val (.ref r_9), .unset, .unset, .unset] [(.int (0 : Int32))])) _
    refine own_go (fun t_ k_ => XS.ifNo X9.here hx rfl (hb hby at_25) rfl ((if0 _ _).trans (teq (show ((0 : Int32) = (0 : Int32)) from by decide)).2) k_) ?_
    show own_Goes p e below (T9.setTop (mkF m 28 #[.val (.int x0), .val (.int x1), .val (.int x2), .val (.int x3), .val (.int (0 : Int32)), .val (.ref r_1), .val (.ref r_5), .val (.ref r_9), .unset, .unset, .unset] [])) _
    refine own_go (fun t_ k_ => XS.iconst X9.here hx rfl (hb hby at_28) k_) ?_
    show own_Goes p e below (T9.setTop (mkF m 29 #[.val (.int x0), .val (.int x1), .val (.int x2), .val (.int x3), .val (.int (0 : Int32)), .val (.ref r_1), .val (.ref r_5), .val (.ref r_9), .unset, .unset, .unset] [(.int (0 : Int32))])) _
    obtain ⟨T17, h17, k17, X17, e17, E17, A17, Ov17, st17⟩ := newR X9 hx hZ9 hown9 (hw _ (List.mem_of_getElem? (i := 4) rfl)) (hw _ (List.mem_of_getElem? (i := 34) rfl)) e9 (g := (mkF m 29 #[.val (.int x0), .val (.int x1), .val (.int x2), .val (.int x3), .val (.int (0 : Int32)), .val (.ref r_1), .val (.ref r_5), .val (.ref r_9), .unset, .unset, .unset] [(.int (0 : Int32))])) rfl (hb hby at_29) rfl (by decide) (cap := 0) (by decide) (by decide) (by decide) (by decide)
    obtain ⟨b17, g17⟩ : ∃ z, z = h9.size := ⟨_, rfl⟩
    rw [← g17] at A17 st17
    refine own_go st17 ?_
    have O18 := O10.ext E17
    have sz19 : h9.size ≤ h17.size := E17.1
    have cs20 := CHr.ext E17 CR12.1
    have CR21 := CHr.trans CR12 cs20
    have hk22 := Nat.le_trans hk9 E17.1
    have l17 : @LT.lt Nat _ b17 h17.size := A17.lt
    have V17 : Arv Z h17 b17 k17 (.object "java/lang/String") (0 : Int32) [] .null := (Arv.new A17 (by decide)).pad (pad_rep [] .null 0)
    show own_Goes p e below (T17.setTop (mkF m 32 #[.val (.int x0), .val (.int x1), .val (.int x2), .val (.int x3), .val (.int (0 : Int32)), .val (.ref r_1), .val (.ref r_5), .val (.ref r_9), .unset, .unset, .unset] [(.ref b17)])) _
    obtain ⟨_, _, ⟨T23, L23, k23, n23⟩, -, X23, ⟨Lc23, hQ23, l23, y23, z23⟩, st23⟩ := Jvm.LawKit.callS X17 hx (y := own_m26) hown9 (mvT hZ9 (hw _ (List.mem_of_getElem? (i := 35) rfl))) (mvT hZ9 (hw _ (List.mem_of_getElem? (i := 36) rfl))) (mvT hZ9 (hw _ (List.mem_of_getElem? (i := 37) rfl))) (mvT hZ9 (hw _ (List.mem_of_getElem? (i := 38) rfl))) (by decide) (backOf (W := 0) (own_of0 l Z a0 hw [] b17 k17 h17 n0 O18 gz gwE gwO gwA gk G V17) hZ9 (hw _ (List.mem_of_getElem? (i := 38) rfl)) (hw _ (List.mem_of_getElem? (i := 37) rfl)) (by decide) (by decide)) (g := (mkF m 32 #[.val (.int x0), .val (.int x1), .val (.int x2), .val (.int x3), .val (.int (0 : Int32)), .val (.ref r_1), .val (.ref r_5), .val (.ref r_9), .unset, .unset, .unset] [(.ref b17)])) rfl (by rw [hml]; rfl) (argsL := [(.ref b17)]) (rest := []) (lenOf own_pd_25 rfl) rfl (by show 2 * 0 + _ ≤ _; exact Nat.le_of_eq rfl) (hb hby at_32) (fun _ _ => ⟨rfl, e17, (by decide : 19 + 1 ≤ _), (by decide : 36 + 2 ≤ _)⟩)
    dsimp only [Pt.U, Pt.locs, Pt.cells, Pt.slots] at X23 l23 y23 z23 st23 hQ23
    subst l23 y23 z23
    obtain ⟨h23, e23⟩ : ∃ z, T23.heap = z := ⟨_, rfl⟩
    rw [e23] at hQ23
    obtain ⟨Nc23, Kc23, r_23, rfl, c23_0, c23_1, c23_2, c23_3⟩ := hQ23
    have N23 := Fr.app N9 Nc23
    have O24 := O18.keep Kc23 all0
    have sz25 : h17.size ≤ h23.size := Kc23.1
    have cs26 := CHr.keep Kc23 sf0 CR21.1
    have CR27 := CHr.trans CR21 cs26
    have hk28 := Nat.le_trans hk22 Kc23.1
    have ltc23_0 : @LT.lt Nat _ r_23 h23.size := c23_0.lt
    refine own_go st23 ?_
    show own_Goes p e below (T23.setTop (mkF m 35 #[.val (.int x0), .val (.int x1), .val (.int x2), .val (.int x3), .val (.int (0 : Int32)), .val (.ref r_1), .val (.ref r_5), .val (.ref r_9), .unset, .unset, .unset] [(.ref r_23)])) _
    refine own_go (fun t_ k_ => XS.astore X23.here hx rfl (hb hby at_35) rfl rfl (l' := #[.val (.int x0), .val (.int x1), .val (.int x2), .val (.int x3), .val (.int (0 : Int32)), .val (.ref r_1), .val (.ref r_5), .val (.ref r_9), .val (.ref r_23), .unset, .unset]) rfl k_) ?_
    show own_Goes p e below (T23.setTop (mkF m 37 #[.val (.int x0), .val (.int x1), .val (.int x2), .val (.int x3), .val (.int (0 : Int32)), .val (.ref r_1), .val (.ref r_5), .val (.ref r_9), .val (.ref r_23), .unset, .unset] [])) _
    refine own_go (fun t_ k_ => XS.goto X23.here hx rfl (pc0 := 37) (pc' := 115) rfl (hb hby at_37) (by decide) (by decide) k_) ?_
    show own_Goes p e below (T23.setTop (mkF m 115 #[.val (.int x0), .val (.int x1), .val (.int x2), .val (.int x3), .val (.int (0 : Int32)), .val (.ref r_1), .val (.ref r_5), .val (.ref r_9), .val (.ref r_23), .unset, .unset] [])) _
    refine own_go (fun t_ k_ => XS.aload X23.here hx rfl (hb hby at_115) rfl rfl k_) ?_
    show own_Goes p e below (T23.setTop (mkF m 117 #[.val (.int x0), .val (.int x1), .val (.int x2), .val (.int x3), .val (.int (0 : Int32)), .val (.ref r_1), .val (.ref r_5), .val (.ref r_9), .val (.ref r_23), .unset, .unset] [(.ref r_23)])) _
    obtain ⟨cqiv29, kqiv29, qiv29a, qiv29b, qiv29c⟩ := isOf hZ9 e23 c23_0
    obtain ⟨_, _, ⟨T30, L30, k30, n30⟩, -, X30, ⟨Lc30, hQ30, l30, y30, z30⟩, st30⟩ := X23.virtualBack hx (y := own_m27) (z := own_m27) hown9 (mvT hZ9 (hw _ (List.mem_of_getElem? (i := 58) rfl))) (mvT hZ9 (hw _ (List.mem_of_getElem? (i := 59) rfl))) (notFace_of_selects (args := #[]) (mvT hZ9 (hw _ (List.mem_of_getElem? (i := 61) rfl)))) (mvT hZ9 (hw _ (List.mem_of_getElem? (i := 61) rfl))) (mvT hZ9 (hw _ (List.mem_of_getElem? (i := 60) rfl))) (by decide) (backOf (W := 0) (own_stm l Z a0 hw [] r_23 gwE h23 n0 O24 c23_2) hZ9 (hw _ (List.mem_of_getElem? (i := 62) rfl)) (hw _ (List.mem_of_getElem? (i := 37) rfl)) (by decide) (by decide)) qiv29a qiv29c (g := (mkF m 117 #[.val (.int x0), .val (.int x1), .val (.int x2), .val (.int x3), .val (.int (0 : Int32)), .val (.ref r_1), .val (.ref r_5), .val (.ref r_9), .val (.ref r_23), .unset, .unset] [(.ref r_23)])) rfl (by rw [hml]; rfl) (Steps.refl _) (argsL := []) (rest := []) (lenOf own_pd_18 rfl) rfl (by show 2 * 0 + _ ≤ _; exact Nat.le_of_eq rfl) (hb hby at_117) (fun _ _ => ⟨rfl, e23, (by decide : 20 + 0 ≤ _), (by decide : 38 + 0 ≤ _)⟩)
    dsimp only [Pt.U, Pt.locs, Pt.cells, Pt.slots] at X30 l30 y30 z30 st30 hQ30
    subst l30 y30 z30
    obtain ⟨Nc30, e30, rfl⟩ := hQ30
    have N30 := Fr.app N23 Nc30
    refine own_goS st30 ?_
    show own_Goes p e below (T30.setTop (mkF m 120 #[.val (.int x0), .val (.int x1), .val (.int x2), .val (.int x3), .val (.int (0 : Int32)), .val (.ref r_1), .val (.ref r_5), .val (.ref r_9), .val (.ref r_23), .unset, .unset] [(.ref gwE)])) _
    refine own_go (fun t_ k_ => XS.astore X30.here hx rfl (hb hby at_120) rfl rfl (l' := #[.val (.int x0), .val (.int x1), .val (.int x2), .val (.int x3), .val (.int (0 : Int32)), .val (.ref r_1), .val (.ref r_5), .val (.ref r_9), .val (.ref r_23), .val (.ref gwE), .unset]) rfl k_) ?_
    show own_Goes p e below (T30.setTop (mkF m 122 #[.val (.int x0), .val (.int x1), .val (.int x2), .val (.int x3), .val (.int (0 : Int32)), .val (.ref r_1), .val (.ref r_5), .val (.ref r_9), .val (.ref r_23), .val (.ref gwE), .unset] [])) _
    refine own_go (fun t_ k_ => XS.aload X30.here hx rfl (hb hby at_122) rfl rfl k_) ?_
    show own_Goes p e below (T30.setTop (mkF m 124 #[.val (.int x0), .val (.int x1), .val (.int x2), .val (.int x3), .val (.int (0 : Int32)), .val (.ref r_1), .val (.ref r_5), .val (.ref r_9), .val (.ref r_23), .val (.ref gwE), .unset] [(.ref r_23)])) _
    obtain ⟨cqiv31, kqiv31, qiv31a, qiv31b, qiv31c⟩ := isOf hZ9 e30 c23_0
    obtain ⟨_, _, ⟨T32, L32, k32, n32⟩, -, X32, ⟨Lc32, hQ32, l32, y32, z32⟩, st32⟩ := X30.virtualBack hx (y := own_m28) (z := own_m28) hown9 (mvT hZ9 (hw _ (List.mem_of_getElem? (i := 63) rfl))) (mvT hZ9 (hw _ (List.mem_of_getElem? (i := 64) rfl))) (notFace_of_selects (args := #[]) (mvT hZ9 (hw _ (List.mem_of_getElem? (i := 66) rfl)))) (mvT hZ9 (hw _ (List.mem_of_getElem? (i := 66) rfl))) (mvT hZ9 (hw _ (List.mem_of_getElem? (i := 65) rfl))) (by decide) (backOf (W := 0) (own_rew l Z a0 hw [] r_23 gwE h23 n0 O24 c23_1) hZ9 (hw _ (List.mem_of_getElem? (i := 67) rfl)) (hw _ (List.mem_of_getElem? (i := 37) rfl)) (by decide) (by decide)) qiv31a qiv31c (g := (mkF m 124 #[.val (.int x0), .val (.int x1), .val (.int x2), .val (.int x3), .val (.int (0 : Int32)), .val (.ref r_1), .val (.ref r_5), .val (.ref r_9), .val (.ref r_23), .val (.ref gwE), .unset] [(.ref r_23)])) rfl (by rw [hml]; rfl) (Steps.refl _) (argsL := []) (rest := []) (lenOf own_pd_18 rfl) rfl (by show 2 * 0 + _ ≤ _; exact Nat.le_of_eq rfl) (hb hby at_124) (fun _ _ => ⟨rfl, e30, (by decide : 20 + 0 ≤ _), (by decide : 38 + 0 ≤ _)⟩)
    dsimp only [Pt.U, Pt.locs, Pt.cells, Pt.slots] at X32 l32 y32 z32 st32 hQ32
    subst l32 y32 z32
    obtain ⟨Nc32, e32, rfl⟩ := hQ32
    have N32 := Fr.app N30 Nc32
    refine own_goS st32 ?_
    show own_Goes p e below (T32.setTop (mkF m 127 #[.val (.int x0), .val (.int x1), .val (.int x2), .val (.int x3), .val (.int (0 : Int32)), .val (.ref r_1), .val (.ref r_5), .val (.ref r_9), .val (.ref r_23), .val (.ref gwE), .unset] [(.ref gwE)])) _
    refine own_go (fun t_ k_ => XS.astore X32.here hx rfl (hb hby at_127) rfl rfl (l' := #[.val (.int x0), .val (.int x1), .val (.int x2), .val (.int x3), .val (.int (0 : Int32)), .val (.ref r_1), .val (.ref r_5), .val (.ref r_9), .val (.ref r_23), .val (.ref gwE), .val (.ref gwE)]) rfl k_) ?_
    show own_Goes p e below (T32.setTop (mkF m 129 #[.val (.int x0), .val (.int x1), .val (.int x2), .val (.int x3), .val (.int (0 : Int32)), .val (.ref r_1), .val (.ref r_5), .val (.ref r_9), .val (.ref r_23), .val (.ref gwE), .val (.ref gwE)] [])) _
    refine own_go (fun t_ k_ => XS.aload X32.here hx rfl (hb hby at_129) rfl rfl k_) ?_
    show own_Goes p e below (T32.setTop (mkF m 131 #[.val (.int x0), .val (.int x1), .val (.int x2), .val (.int x3), .val (.int (0 : Int32)), .val (.ref r_1), .val (.ref r_5), .val (.ref r_9), .val (.ref r_23), .val (.ref gwE), .val (.ref gwE)] [(.ref gwE)])) _
    refine own_go (fun t_ k_ => XS.ifnullNo X32.here hx rfl (hb hby at_131) rfl k_) ?_
    show own_Goes p e below (T32.setTop (mkF m 134 #[.val (.int x0), .val (.int x1), .val (.int x2), .val (.int x3), .val (.int (0 : Int32)), .val (.ref r_1), .val (.ref r_5), .val (.ref r_9), .val (.ref r_23), .val (.ref gwE), .val (.ref gwE)] [])) _
    refine own_go (fun t_ k_ => XS.aload X32.here hx rfl (hb hby at_134) rfl rfl k_) ?_
    show own_Goes p e below (T32.setTop (mkF m 136 #[.val (.int x0), .val (.int x1), .val (.int x2), .val (.int x3), .val (.int (0 : Int32)), .val (.ref r_1), .val (.ref r_5), .val (.ref r_9), .val (.ref r_23), .val (.ref gwE), .val (.ref gwE)] [(.ref gwE)])) _
    have q33 := G6.ext O24.2
    have q34 := G7.ext O24.2
    have q35 := G3.ext O24.2
    obtain ⟨cqiv36, kqiv36, qiv36a, qiv36b, qiv36c⟩ := isOf hZ9 e32 q35
    obtain ⟨_, _, ⟨T37, L37, k37, n37⟩, -, X37, ⟨Lc37, hQ37, l37, y37, z37⟩, st37⟩ := X32.interfaceBack hx (xi := own_m30) (y := own_m31) hown9 (mvT hZ9 (hw _ (List.mem_of_getElem? (i := 68) rfl))) (mvT hZ9 (hw _ (List.mem_of_getElem? (i := 69) rfl))) (mvT hZ9 (hw _ (List.mem_of_getElem? (i := 70) rfl))) (mvT hZ9 (hw _ (List.mem_of_getElem? (i := 71) rfl))) (mvT hZ9 (hw _ (List.mem_of_getElem? (i := 72) rfl))) (mvT hZ9 (hw _ (List.mem_of_getElem? (i := 73) rfl))) (mvT hZ9 (hw _ (List.mem_of_getElem? (i := 74) rfl))) (mvT hZ9 (hw _ (List.mem_of_getElem? (i := 75) rfl))) (by decide) (backOf (W := 0) (own_lnSize0 l Z a0 hw [] gwE gwA gk h23 n0 O24 q33 q34) hZ9 (hw _ (List.mem_of_getElem? (i := 77) rfl)) (hw _ (List.mem_of_getElem? (i := 76) rfl)) (by decide) (by decide)) qiv36a qiv36b qiv36c (g := (mkF m 136 #[.val (.int x0), .val (.int x1), .val (.int x2), .val (.int x3), .val (.int (0 : Int32)), .val (.ref r_1), .val (.ref r_5), .val (.ref r_9), .val (.ref r_23), .val (.ref gwE), .val (.ref gwE)] [(.ref gwE)])) rfl (by rw [hml]; rfl) (Steps.refl _) (argsL := []) (rest := []) (lenOf own_pd_29 rfl) rfl (by show 2 * 0 + _ ≤ _; exact Nat.le_of_eq rfl) (hb hby at_136) (fun _ _ => ⟨rfl, e32, (by decide : 20 + 0 ≤ _), (by decide : 38 + 0 ≤ _)⟩)
    dsimp only [Pt.U, Pt.locs, Pt.cells, Pt.slots] at X37 l37 y37 z37 st37 hQ37
    subst l37 y37 z37
    obtain ⟨Nc37, e37, rfl⟩ := hQ37
    have N37 := Fr.app N32 Nc37
    refine own_goS st37 ?_
    show own_Goes p e below (T37.setTop (mkF m 141 #[.val (.int x0), .val (.int x1), .val (.int x2), .val (.int x3), .val (.int (0 : Int32)), .val (.ref r_1), .val (.ref r_5), .val (.ref r_9), .val (.ref r_23), .val (.ref gwE), .val (.ref gwE)] [(.int (0 : Int32))])) _
    refine own_go (fun t_ k_ => XS.ifYes X37.here hx rfl (pc0 := 141) (pc' := 146) rfl (hb hby at_141) rfl ((if0 _ _).trans (teq (show ((0 : Int32) = (0 : Int32)) from by decide)).1) (by decide) (by decide) k_) ?_
    show own_Goes p e below (T37.setTop (mkF m 146 #[.val (.int x0), .val (.int x1), .val (.int x2), .val (.int x3), .val (.int (0 : Int32)), .val (.ref r_1), .val (.ref r_5), .val (.ref r_9), .val (.ref r_23), .val (.ref gwE), .val (.ref gwE)] [])) _
    refine own_go (fun t_ k_ => XS.aload X37.here hx rfl (hb hby at_146) rfl rfl k_) ?_
    show own_Goes p e below (T37.setTop (mkF m 148 #[.val (.int x0), .val (.int x1), .val (.int x2), .val (.int x3), .val (.int (0 : Int32)), .val (.ref r_1), .val (.ref r_5), .val (.ref r_9), .val (.ref r_23), .val (.ref gwE), .val (.ref gwE)] [(.ref gwE)])) _
    refine own_go (fun t_ k_ => XS.ifnullNo X37.here hx rfl (hb hby at_148) rfl k_) ?_
    show own_Goes p e below (T37.setTop (mkF m 151 #[.val (.int x0), .val (.int x1), .val (.int x2), .val (.int x3), .val (.int (0 : Int32)), .val (.ref r_1), .val (.ref r_5), .val (.ref r_9), .val (.ref r_23), .val (.ref gwE), .val (.ref gwE)] [])) _
    refine own_go (fun t_ k_ => XS.aload X37.here hx rfl (hb hby at_151) rfl rfl k_) ?_
    show own_Goes p e below (T37.setTop (mkF m 153 #[.val (.int x0), .val (.int x1), .val (.int x2), .val (.int x3), .val (.int (0 : Int32)), .val (.ref r_1), .val (.ref r_5), .val (.ref r_9), .val (.ref r_23), .val (.ref gwE), .val (.ref gwE)] [(.ref gwE)])) _
    have q38 := G6.ext O24.2
    have q39 := G7.ext O24.2
    have q40 := G3.ext O24.2
    obtain ⟨cqiv41, kqiv41, qiv41a, qiv41b, qiv41c⟩ := isOf hZ9 e37 q40
    obtain ⟨_, _, ⟨T42, L42, k42, n42⟩, -, X42, ⟨Lc42, hQ42, l42, y42, z42⟩, st42⟩ := X37.interfaceBack hx (xi := own_m30) (y := own_m31) hown9 (mvT hZ9 (hw _ (List.mem_of_getElem? (i := 68) rfl))) (mvT hZ9 (hw _ (List.mem_of_getElem? (i := 69) rfl))) (mvT hZ9 (hw _ (List.mem_of_getElem? (i := 70) rfl))) (mvT hZ9 (hw _ (List.mem_of_getElem? (i := 71) rfl))) (mvT hZ9 (hw _ (List.mem_of_getElem? (i := 72) rfl))) (mvT hZ9 (hw _ (List.mem_of_getElem? (i := 73) rfl))) (mvT hZ9 (hw _ (List.mem_of_getElem? (i := 74) rfl))) (mvT hZ9 (hw _ (List.mem_of_getElem? (i := 75) rfl))) (by decide) (backOf (W := 0) (own_lnSize0 l Z a0 hw [] gwE gwA gk h23 n0 O24 q38 q39) hZ9 (hw _ (List.mem_of_getElem? (i := 77) rfl)) (hw _ (List.mem_of_getElem? (i := 76) rfl)) (by decide) (by decide)) qiv41a qiv41b qiv41c (g := (mkF m 153 #[.val (.int x0), .val (.int x1), .val (.int x2), .val (.int x3), .val (.int (0 : Int32)), .val (.ref r_1), .val (.ref r_5), .val (.ref r_9), .val (.ref r_23), .val (.ref gwE), .val (.ref gwE)] [(.ref gwE)])) rfl (by rw [hml]; rfl) (Steps.refl _) (argsL := []) (rest := []) (lenOf own_pd_29 rfl) rfl (by show 2 * 0 + _ ≤ _; exact Nat.le_of_eq rfl) (hb hby at_153) (fun _ _ => ⟨rfl, e37, (by decide : 20 + 0 ≤ _), (by decide : 38 + 0 ≤ _)⟩)
    dsimp only [Pt.U, Pt.locs, Pt.cells, Pt.slots] at X42 l42 y42 z42 st42 hQ42
    subst l42 y42 z42
    obtain ⟨Nc42, e42, rfl⟩ := hQ42
    have N42 := Fr.app N37 Nc42
    refine own_goS st42 ?_
    show own_Goes p e below (T42.setTop (mkF m 158 #[.val (.int x0), .val (.int x1), .val (.int x2), .val (.int x3), .val (.int (0 : Int32)), .val (.ref r_1), .val (.ref r_5), .val (.ref r_9), .val (.ref r_23), .val (.ref gwE), .val (.ref gwE)] [(.int (0 : Int32))])) _
    refine own_go (fun t_ k_ => XS.iload X42.here hx rfl (hb hby at_158) rfl k_) ?_
    show own_Goes p e below (T42.setTop (mkF m 160 #[.val (.int x0), .val (.int x1), .val (.int x2), .val (.int x3), .val (.int (0 : Int32)), .val (.ref r_1), .val (.ref r_5), .val (.ref r_9), .val (.ref r_23), .val (.ref gwE), .val (.ref gwE)] [(.int (0 : Int32)), (.int (0 : Int32))])) _
    refine own_go (fun t_ k_ => XS.icmpYes X42.here hx rfl (pc0 := 160) (pc' := 165) rfl (hb hby at_160) rfl (teq (show ((0 : Int32) = (0 : Int32)) from by decide)).1 (by decide) (by decide) k_) ?_
    show own_Goes p e below (T42.setTop (mkF m 165 #[.val (.int x0), .val (.int x1), .val (.int x2), .val (.int x3), .val (.int (0 : Int32)), .val (.ref r_1), .val (.ref r_5), .val (.ref r_9), .val (.ref r_23), .val (.ref gwE), .val (.ref gwE)] [])) _
    refine own_go (fun t_ k_ => XS.iload X42.here hx rfl (hb hby at_165) rfl k_) ?_
    show own_Goes p e below (T42.setTop (mkF m 167 #[.val (.int x0), .val (.int x1), .val (.int x2), .val (.int x3), .val (.int (0 : Int32)), .val (.ref r_1), .val (.ref r_5), .val (.ref r_9), .val (.ref r_23), .val (.ref gwE), .val (.ref gwE)] [(.int (0 : Int32))])) _
    refine own_go (fun t_ k_ => XS.iconst X42.here hx rfl (hb hby at_167) k_) ?_
    show own_Goes p e below (T42.setTop (mkF m 168 #[.val (.int x0), .val (.int x1), .val (.int x2), .val (.int x3), .val (.int (0 : Int32)), .val (.ref r_1), .val (.ref r_5), .val (.ref r_9), .val (.ref r_23), .val (.ref gwE), .val (.ref gwE)] [(.int (1 : Int32)), (.int (0 : Int32))])) _
    refine own_go (fun t_ k_ => XS.icmpYes X42.here hx rfl (pc0 := 168) (pc' := 189) rfl (hb hby at_168) rfl (tlt (show ((0 : Int32) < (1 : Int32)) from by decide)).1 (by decide) (by decide) k_) ?_
    show own_Goes p e below (T42.setTop (mkF m 189 #[.val (.int x0), .val (.int x1), .val (.int x2), .val (.int x3), .val (.int (0 : Int32)), .val (.ref r_1), .val (.ref r_5), .val (.ref r_9), .val (.ref r_23), .val (.ref gwE), .val (.ref gwE)] [])) _
    refine own_go (fun t_ k_ => XS.iload X42.here hx rfl (hb hby at_189) rfl k_) ?_
    show own_Goes p e below (T42.setTop (mkF m 191 #[.val (.int x0), .val (.int x1), .val (.int x2), .val (.int x3), .val (.int (0 : Int32)), .val (.ref r_1), .val (.ref r_5), .val (.ref r_9), .val (.ref r_23), .val (.ref gwE), .val (.ref gwE)] [(.int (0 : Int32))])) _
    refine own_go (fun t_ k_ => XS.iconst X42.here hx rfl (hb hby at_191) k_) ?_
    show own_Goes p e below (T42.setTop (mkF m 192 #[.val (.int x0), .val (.int x1), .val (.int x2), .val (.int x3), .val (.int (0 : Int32)), .val (.ref r_1), .val (.ref r_5), .val (.ref r_9), .val (.ref r_23), .val (.ref gwE), .val (.ref gwE)] [(.int (2 : Int32)), (.int (0 : Int32))])) _
    refine own_go (fun t_ k_ => XS.icmpYes X42.here hx rfl (pc0 := 192) (pc' := 213) rfl (hb hby at_192) rfl (tlt (show ((0 : Int32) < (2 : Int32)) from by decide)).1 (by decide) (by decide) k_) ?_
    show own_Goes p e below (T42.setTop (mkF m 213 #[.val (.int x0), .val (.int x1), .val (.int x2), .val (.int x3), .val (.int (0 : Int32)), .val (.ref r_1), .val (.ref r_5), .val (.ref r_9), .val (.ref r_23), .val (.ref gwE), .val (.ref gwE)] [])) _
    refine own_go (fun t_ k_ => XS.iload X42.here hx rfl (hb hby at_213) rfl k_) ?_
    show own_Goes p e below (T42.setTop (mkF m 215 #[.val (.int x0), .val (.int x1), .val (.int x2), .val (.int x3), .val (.int (0 : Int32)), .val (.ref r_1), .val (.ref r_5), .val (.ref r_9), .val (.ref r_23), .val (.ref gwE), .val (.ref gwE)] [(.int (0 : Int32))])) _
    refine own_go (fun t_ k_ => XS.iconst X42.here hx rfl (hb hby at_215) k_) ?_
    show own_Goes p e below (T42.setTop (mkF m 216 #[.val (.int x0), .val (.int x1), .val (.int x2), .val (.int x3), .val (.int (0 : Int32)), .val (.ref r_1), .val (.ref r_5), .val (.ref r_9), .val (.ref r_23), .val (.ref gwE), .val (.ref gwE)] [(.int (3 : Int32)), (.int (0 : Int32))])) _
    refine own_go (fun t_ k_ => XS.icmpYes X42.here hx rfl (pc0 := 216) (pc' := 237) rfl (hb hby at_216) rfl (tlt (show ((0 : Int32) < (3 : Int32)) from by decide)).1 (by decide) (by decide) k_) ?_
    show own_Goes p e below (T42.setTop (mkF m 237 #[.val (.int x0), .val (.int x1), .val (.int x2), .val (.int x3), .val (.int (0 : Int32)), .val (.ref r_1), .val (.ref r_5), .val (.ref r_9), .val (.ref r_23), .val (.ref gwE), .val (.ref gwE)] [])) _
    refine own_go (fun t_ k_ => XS.iconst X42.here hx rfl (hb hby at_237) k_) ?_
    show own_Goes p e below (T42.setTop (mkF m 238 #[.val (.int x0), .val (.int x1), .val (.int x2), .val (.int x3), .val (.int (0 : Int32)), .val (.ref r_1), .val (.ref r_5), .val (.ref r_9), .val (.ref r_23), .val (.ref gwE), .val (.ref gwE)] [(.int (1 : Int32))])) _
    refine own_endH X42 hS9 (show _ ≤ T42.heap.size by rw [e42]; exact hk28) e42 hh CR27 hZ9 (own_EW hw) (v := (some (.int (1 : Int32)))) (fun h => by rw [hret] at h; cases h) hlk (by decide) (by decide) ?_ (fun fs hr => retOut X42 hx hret rfl (Or.inl ⟨rfl, Or.inr (Or.inl rfl), _, rfl⟩) (hb hby at_238) hr)
    show Q_rm0 Z x0 x1 x2 x3 gz gwE gwO gwA gk h0 n0 _ T42.heap _
    rw [e42]
    exact ⟨N42, trivial, rfl⟩
  · rw [hl14]
    show own_Goes p e below (T9.setTop (mkF m 23 #[.val (.int x0), .val (.int x1), .val (.int x2), .val (.int x3), .val (.int (1 : Int32)), .val (.ref r_1), .val (.ref r_5), .val (.ref r_9), .unset, .unset, .unset] [])) _
    refine own_go (fun t_ k_ => XS.iload X9.here hx rfl (hb hby at_23) rfl k_) ?_
    show own_Goes p e below (T9.setTop (mkF m 25 #[.val (.int x0), .val (.int x1), .val (.int x2), .val (.int x3), .val (.int (1 : Int32)), .val (.ref r_1), .val (.ref r_5), .val (.ref r_9), .unset, .unset, .unset] [(.int (1 : Int32))])) _
    refine own_go (fun t_ k_ => XS.ifYes X9.here hx rfl (pc0 := 25) (pc' := 40) rfl (hb hby at_25) rfl ((if0 _ _).trans (feq (show ¬ ((1 : Int32) = (0 : Int32)) from by decide)).2) (by decide) (by decide) k_) ?_
    show own_Goes p e below (T9.setTop (mkF m 40 #[.val (.int x0), .val (.int x1), .val (.int x2), .val (.int x3), .val (.int (1 : Int32)), .val (.ref r_1), .val (.ref r_5), .val (.ref r_9), .unset, .unset, .unset] [])) _
    refine own_go (fun t_ k_ => XS.iload X9.here hx rfl (hb hby at_40) rfl k_) ?_
    show own_Goes p e below (T9.setTop (mkF m 42 #[.val (.int x0), .val (.int x1), .val (.int x2), .val (.int x3), .val (.int (1 : Int32)), .val (.ref r_1), .val (.ref r_5), .val (.ref r_9), .unset, .unset, .unset] [(.int (1 : Int32))])) _
    refine own_go (fun t_ k_ => XS.iconst X9.here hx rfl (hb hby at_42) k_) ?_
    show own_Goes p e below (T9.setTop (mkF m 43 #[.val (.int x0), .val (.int x1), .val (.int x2), .val (.int x3), .val (.int (1 : Int32)), .val (.ref r_1), .val (.ref r_5), .val (.ref r_9), .unset, .unset, .unset] [(.int (1 : Int32)), (.int (1 : Int32))])) _
    refine own_go (fun t_ k_ => XS.icmpNo X9.here hx rfl (hb hby at_43) rfl (teq (show ((1 : Int32) = (1 : Int32)) from by decide)).2 k_) ?_
    show own_Goes p e below (T9.setTop (mkF m 46 #[.val (.int x0), .val (.int x1), .val (.int x2), .val (.int x3), .val (.int (1 : Int32)), .val (.ref r_1), .val (.ref r_5), .val (.ref r_9), .unset, .unset, .unset] [])) _
    refine own_go (fun t_ k_ => XS.iconst X9.here hx rfl (hb hby at_46) k_) ?_
    show own_Goes p e below (T9.setTop (mkF m 47 #[.val (.int x0), .val (.int x1), .val (.int x2), .val (.int x3), .val (.int (1 : Int32)), .val (.ref r_1), .val (.ref r_5), .val (.ref r_9), .unset, .unset, .unset] [(.int (1 : Int32))])) _
    obtain ⟨T43, h43, k43, X43, e43, E43, A43, Ov43, st43⟩ := newR X9 hx hZ9 hown9 (hw _ (List.mem_of_getElem? (i := 4) rfl)) (hw _ (List.mem_of_getElem? (i := 34) rfl)) e9 (g := (mkF m 47 #[.val (.int x0), .val (.int x1), .val (.int x2), .val (.int x3), .val (.int (1 : Int32)), .val (.ref r_1), .val (.ref r_5), .val (.ref r_9), .unset, .unset, .unset] [(.int (1 : Int32))])) rfl (hb hby at_47) rfl (by decide) (cap := 1) (by decide) (by decide) (by decide) (by decide)
    obtain ⟨b43, g43⟩ : ∃ z, z = h9.size := ⟨_, rfl⟩
    rw [← g43] at A43 st43
    refine own_go st43 ?_
    have O44 := O10.ext E43
    have sz45 : h9.size ≤ h43.size := E43.1
    have cs46 := CHr.ext E43 CR12.1
    have CR47 := CHr.trans CR12 cs46
    have hk48 := Nat.le_trans hk9 E43.1
    have l43 : @LT.lt Nat _ b43 h43.size := A43.lt
    have V43 : Arv Z h43 b43 k43 (.object "java/lang/String") (1 : Int32) [.null] .null := (Arv.new A43 (by decide)).pad (pad_rep [] .null 1)
    show own_Goes p e below (T43.setTop (mkF m 50 #[.val (.int x0), .val (.int x1), .val (.int x2), .val (.int x3), .val (.int (1 : Int32)), .val (.ref r_1), .val (.ref r_5), .val (.ref r_9), .unset, .unset, .unset] [(.ref b43)])) _
    refine own_go (fun t_ k_ => XS.dup X43.here hx rfl (hb hby at_50) rfl rfl k_) ?_
    show own_Goes p e below (T43.setTop (mkF m 51 #[.val (.int x0), .val (.int x1), .val (.int x2), .val (.int x3), .val (.int (1 : Int32)), .val (.ref r_1), .val (.ref r_5), .val (.ref r_9), .unset, .unset, .unset] [(.ref b43), (.ref b43)])) _
    refine own_go (fun t_ k_ => XS.iconst X43.here hx rfl (hb hby at_51) k_) ?_
    show own_Goes p e below (T43.setTop (mkF m 52 #[.val (.int x0), .val (.int x1), .val (.int x2), .val (.int x3), .val (.int (1 : Int32)), .val (.ref r_1), .val (.ref r_5), .val (.ref r_9), .unset, .unset, .unset] [(.int (0 : Int32)), (.ref b43), (.ref b43)])) _
    refine own_go (fun t_ k_ => XS.aload X43.here hx rfl (hb hby at_52) rfl rfl k_) ?_
    show own_Goes p e below (T43.setTop (mkF m 54 #[.val (.int x0), .val (.int x1), .val (.int x2), .val (.int x3), .val (.int (1 : Int32)), .val (.ref r_1), .val (.ref r_5), .val (.ref r_9), .unset, .unset, .unset] [(.ref r_1), (.int (0 : Int32)), (.ref b43), (.ref b43)])) _
    obtain ⟨clu49, Aru49, qu49, Szu49, Ngu49, Hsu49, Gsu49⟩ := id V43
    have inu49 : ¬ ((0 : Int32) < 0 ∨ clu49.slots.size ≤ ((0 : Int32)).toNatClampNeg) := inb_of Szu49 ⟨by decide, by decide⟩
    have f50 := (((c1_0.keep Kc5).keep Kc9).ext E43)
    obtain ⟨T51, h51, X51, e51, W51, st51⟩ := stR X43 hx hZ9 e43 Aru49 (j := (0 : Int32)) inu49 rfl (Sto.ofV Aru49 qu49 Ov43 (Ins.self f50)) (g := (mkF m 54 #[.val (.int x0), .val (.int x1), .val (.int x2), .val (.int x3), .val (.int (1 : Int32)), .val (.ref r_1), .val (.ref r_5), .val (.ref r_9), .unset, .unset, .unset] [(.ref r_1), (.int (0 : Int32)), (.ref b43), (.ref b43)])) rfl rfl (hb hby at_54)
    refine own_go st51 ?_
    have V51 := Arv.set Aru49 qu49 Szu49 Ngu49 Hsu49 Gsu49 rfl W51 0 rfl (Nat.le_of_ble_eq_true rfl)
    have O52 := O44.wr W51 (show n0 ≤ b43 by omega)
    have sz53 : h51.size = h43.size := Wr.size W51
    have cs54 := CHr.wr W51 (Safe.arv hZ9.alike V43 (by decide)) CR47.1
    have CR55 := CHr.trans CR47 cs54
    have hk56 := Nat.le_trans hk48 (Nat.le_of_eq (Wr.size W51).symm)
    have N51 := Fr.snoc X51 N9 (show n0 ≤ b43 by omega)
    have V51 : Arv Z h51 b43 k43 (.object "java/lang/String") (1 : Int32) [(.ref r_1)] .null := V51
    show own_Goes p e below (T51.setTop (mkF m 55 #[.val (.int x0), .val (.int x1), .val (.int x2), .val (.int x3), .val (.int (1 : Int32)), .val (.ref r_1), .val (.ref r_5), .val (.ref r_9), .unset, .unset, .unset] [(.ref b43)])) _
    have f57 := (f50.wr W51)
    obtain ⟨_, _, ⟨T58, L58, k58, n58⟩, -, X58, ⟨Lc58, hQ58, l58, y58, z58⟩, st58⟩ := Jvm.LawKit.callS X51 hx (y := own_m26) hown9 (mvT hZ9 (hw _ (List.mem_of_getElem? (i := 35) rfl))) (mvT hZ9 (hw _ (List.mem_of_getElem? (i := 36) rfl))) (mvT hZ9 (hw _ (List.mem_of_getElem? (i := 37) rfl))) (mvT hZ9 (hw _ (List.mem_of_getElem? (i := 38) rfl))) (by decide) (backOf (W := 0) (own_of1 l Z a0 hw [] b43 k43 r_1 h51 n0 O52 gz gwE gwO gwA gk G V51 f57) hZ9 (hw _ (List.mem_of_getElem? (i := 38) rfl)) (hw _ (List.mem_of_getElem? (i := 37) rfl)) (by decide) (by decide)) (g := (mkF m 55 #[.val (.int x0), .val (.int x1), .val (.int x2), .val (.int x3), .val (.int (1 : Int32)), .val (.ref r_1), .val (.ref r_5), .val (.ref r_9), .unset, .unset, .unset] [(.ref b43)])) rfl (by rw [hml]; rfl) (argsL := [(.ref b43)]) (rest := []) (lenOf own_pd_25 rfl) rfl (by show 2 * 0 + _ ≤ _; exact Nat.le_of_eq rfl) (hb hby at_55) (fun _ _ => ⟨rfl, e51, (by decide : 19 + 2 ≤ _), (by decide : 37 + 4 ≤ _)⟩)
    dsimp only [Pt.U, Pt.locs, Pt.cells, Pt.slots] at X58 l58 y58 z58 st58 hQ58
    subst l58 y58 z58
    obtain ⟨h58, e58⟩ : ∃ z, T58.heap = z := ⟨_, rfl⟩
    rw [e58] at hQ58
    obtain ⟨Nc58, Kc58, r_58, rl_58, rfl, c58_0, c58_1, c58_2, c58_3, c58_4, c58_5, c58_6⟩ := hQ58
    have N58 := Fr.app N51 Nc58
    have O59 := O52.keep Kc58 all0
    have sz60 : h51.size ≤ h58.size := Kc58.1
    have cs61 := CHr.keep Kc58 sf0 CR55.1
    have CR62 := CHr.trans CR55 cs61
    have hk63 := Nat.le_trans hk56 Kc58.1
    have ltc58_0 : @LT.lt Nat _ r_58 h58.size := c58_0.lt
    have ltc58_4 : @LT.lt Nat _ rl_58 h58.size := c58_4.lt
    refine own_go st58 ?_
    show own_Goes p e below (T58.setTop (mkF m 58 #[.val (.int x0), .val (.int x1), .val (.int x2), .val (.int x3), .val (.int (1 : Int32)), .val (.ref r_1), .val (.ref r_5), .val (.ref r_9), .unset, .unset, .unset] [(.ref r_58)])) _
    refine own_go (fun t_ k_ => XS.astore X58.here hx rfl (hb hby at_58) rfl rfl (l' := #[.val (.int x0), .val (.int x1), .val (.int x2), .val (.int x3), .val (.int (1 : Int32)), .val (.ref r_1), .val (.ref r_5), .val (.ref r_9), .val (.ref r_58), .unset, .unset]) rfl k_) ?_
    show own_Goes p e below (T58.setTop (mkF m 60 #[.val (.int x0), .val (.int x1), .val (.int x2), .val (.int x3), .val (.int (1 : Int32)), .val (.ref r_1), .val (.ref r_5), .val (.ref r_9), .val (.ref r_58), .unset, .unset] [])) _
    refine own_go (fun t_ k_ => XS.goto X58.here hx rfl (pc0 := 60) (pc' := 115) rfl (hb hby at_60) (by decide) (by decide) k_) ?_
    show own_Goes p e below (T58.setTop (mkF m 115 #[.val (.int x0), .val (.int x1), .val (.int x2), .val (.int x3), .val (.int (1 : Int32)), .val (.ref r_1), .val (.ref r_5), .val (.ref r_9), .val (.ref r_58), .unset, .unset] [])) _
    refine own_go (fun t_ k_ => XS.aload X58.here hx rfl (hb hby at_115) rfl rfl k_) ?_
    show own_Goes p e below (T58.setTop (mkF m 117 #[.val (.int x0), .val (.int x1), .val (.int x2), .val (.int x3), .val (.int (1 : Int32)), .val (.ref r_1), .val (.ref r_5), .val (.ref r_9), .val (.ref r_58), .unset, .unset] [(.ref r_58)])) _
    obtain ⟨cqiv64, kqiv64, qiv64a, qiv64b, qiv64c⟩ := isOf hZ9 e58 c58_0
    obtain ⟨_, _, ⟨T65, L65, k65, n65⟩, -, X65, ⟨Lc65, hQ65, l65, y65, z65⟩, st65⟩ := X58.virtualBack hx (y := own_m27) (z := own_m27) hown9 (mvT hZ9 (hw _ (List.mem_of_getElem? (i := 58) rfl))) (mvT hZ9 (hw _ (List.mem_of_getElem? (i := 59) rfl))) (notFace_of_selects (args := #[]) (mvT hZ9 (hw _ (List.mem_of_getElem? (i := 61) rfl)))) (mvT hZ9 (hw _ (List.mem_of_getElem? (i := 61) rfl))) (mvT hZ9 (hw _ (List.mem_of_getElem? (i := 60) rfl))) (by decide) (backOf (W := 0) (own_stm l Z a0 hw [] r_58 rl_58 h58 n0 O59 c58_2) hZ9 (hw _ (List.mem_of_getElem? (i := 62) rfl)) (hw _ (List.mem_of_getElem? (i := 37) rfl)) (by decide) (by decide)) qiv64a qiv64c (g := (mkF m 117 #[.val (.int x0), .val (.int x1), .val (.int x2), .val (.int x3), .val (.int (1 : Int32)), .val (.ref r_1), .val (.ref r_5), .val (.ref r_9), .val (.ref r_58), .unset, .unset] [(.ref r_58)])) rfl (by rw [hml]; rfl) (Steps.refl _) (argsL := []) (rest := []) (lenOf own_pd_18 rfl) rfl (by show 2 * 0 + _ ≤ _; exact Nat.le_of_eq rfl) (hb hby at_117) (fun _ _ => ⟨rfl, e58, (by decide : 21 + 0 ≤ _), (by decide : 41 + 0 ≤ _)⟩)
    dsimp only [Pt.U, Pt.locs, Pt.cells, Pt.slots] at X65 l65 y65 z65 st65 hQ65
    subst l65 y65 z65
    obtain ⟨Nc65, e65, rfl⟩ := hQ65
    have N65 := Fr.app N58 Nc65
    refine own_goS st65 ?_
    show own_Goes p e below (T65.setTop (mkF m 120 #[.val (.int x0), .val (.int x1), .val (.int x2), .val (.int x3), .val (.int (1 : Int32)), .val (.ref r_1), .val (.ref r_5), .val (.ref r_9), .val (.ref r_58), .unset, .unset] [(.ref rl_58)])) _
    refine own_go (fun t_ k_ => XS.astore X65.here hx rfl (hb hby at_120) rfl rfl (l' := #[.val (.int x0), .val (.int x1), .val (.int x2), .val (.int x3), .val (.int (1 : Int32)), .val (.ref r_1), .val (.ref r_5), .val (.ref r_9), .val (.ref r_58), .val (.ref rl_58), .unset]) rfl k_) ?_
    show own_Goes p e below (T65.setTop (mkF m 122 #[.val (.int x0), .val (.int x1), .val (.int x2), .val (.int x3), .val (.int (1 : Int32)), .val (.ref r_1), .val (.ref r_5), .val (.ref r_9), .val (.ref r_58), .val (.ref rl_58), .unset] [])) _
    refine own_go (fun t_ k_ => XS.aload X65.here hx rfl (hb hby at_122) rfl rfl k_) ?_
    show own_Goes p e below (T65.setTop (mkF m 124 #[.val (.int x0), .val (.int x1), .val (.int x2), .val (.int x3), .val (.int (1 : Int32)), .val (.ref r_1), .val (.ref r_5), .val (.ref r_9), .val (.ref r_58), .val (.ref rl_58), .unset] [(.ref r_58)])) _
    obtain ⟨cqiv66, kqiv66, qiv66a, qiv66b, qiv66c⟩ := isOf hZ9 e65 c58_0
    obtain ⟨_, _, ⟨T67, L67, k67, n67⟩, -, X67, ⟨Lc67, hQ67, l67, y67, z67⟩, st67⟩ := X65.virtualBack hx (y := own_m28) (z := own_m28) hown9 (mvT hZ9 (hw _ (List.mem_of_getElem? (i := 63) rfl))) (mvT hZ9 (hw _ (List.mem_of_getElem? (i := 64) rfl))) (notFace_of_selects (args := #[]) (mvT hZ9 (hw _ (List.mem_of_getElem? (i := 66) rfl)))) (mvT hZ9 (hw _ (List.mem_of_getElem? (i := 66) rfl))) (mvT hZ9 (hw _ (List.mem_of_getElem? (i := 65) rfl))) (by decide) (backOf (W := 0) (own_rew l Z a0 hw [] r_58 gwE h58 n0 O59 c58_1) hZ9 (hw _ (List.mem_of_getElem? (i := 67) rfl)) (hw _ (List.mem_of_getElem? (i := 37) rfl)) (by decide) (by decide)) qiv66a qiv66c (g := (mkF m 124 #[.val (.int x0), .val (.int x1), .val (.int x2), .val (.int x3), .val (.int (1 : Int32)), .val (.ref r_1), .val (.ref r_5), .val (.ref r_9), .val (.ref r_58), .val (.ref rl_58), .unset] [(.ref r_58)])) rfl (by rw [hml]; rfl) (Steps.refl _) (argsL := []) (rest := []) (lenOf own_pd_18 rfl) rfl (by show 2 * 0 + _ ≤ _; exact Nat.le_of_eq rfl) (hb hby at_124) (fun _ _ => ⟨rfl, e65, (by decide : 21 + 0 ≤ _), (by decide : 41 + 0 ≤ _)⟩)
    dsimp only [Pt.U, Pt.locs, Pt.cells, Pt.slots] at X67 l67 y67 z67 st67 hQ67
    subst l67 y67 z67
    obtain ⟨Nc67, e67, rfl⟩ := hQ67
    have N67 := Fr.app N65 Nc67
    refine own_goS st67 ?_
    show own_Goes p e below (T67.setTop (mkF m 127 #[.val (.int x0), .val (.int x1), .val (.int x2), .val (.int x3), .val (.int (1 : Int32)), .val (.ref r_1), .val (.ref r_5), .val (.ref r_9), .val (.ref r_58), .val (.ref rl_58), .unset] [(.ref gwE)])) _
    refine own_go (fun t_ k_ => XS.astore X67.here hx rfl (hb hby at_127) rfl rfl (l' := #[.val (.int x0), .val (.int x1), .val (.int x2), .val (.int x3), .val (.int (1 : Int32)), .val (.ref r_1), .val (.ref r_5), .val (.ref r_9), .val (.ref r_58), .val (.ref rl_58), .val (.ref gwE)]) rfl k_) ?_
    show own_Goes p e below (T67.setTop (mkF m 129 #[.val (.int x0), .val (.int x1), .val (.int x2), .val (.int x3), .val (.int (1 : Int32)), .val (.ref r_1), .val (.ref r_5), .val (.ref r_9), .val (.ref r_58), .val (.ref rl_58), .val (.ref gwE)] [])) _
    refine own_go (fun t_ k_ => XS.aload X67.here hx rfl (hb hby at_129) rfl rfl k_) ?_
    show own_Goes p e below (T67.setTop (mkF m 131 #[.val (.int x0), .val (.int x1), .val (.int x2), .val (.int x3), .val (.int (1 : Int32)), .val (.ref r_1), .val (.ref r_5), .val (.ref r_9), .val (.ref r_58), .val (.ref rl_58), .val (.ref gwE)] [(.ref gwE)])) _
    refine own_go (fun t_ k_ => XS.ifnullNo X67.here hx rfl (hb hby at_131) rfl k_) ?_
    show own_Goes p e below (T67.setTop (mkF m 134 #[.val (.int x0), .val (.int x1), .val (.int x2), .val (.int x3), .val (.int (1 : Int32)), .val (.ref r_1), .val (.ref r_5), .val (.ref r_9), .val (.ref r_58), .val (.ref rl_58), .val (.ref gwE)] [])) _
    refine own_go (fun t_ k_ => XS.aload X67.here hx rfl (hb hby at_134) rfl rfl k_) ?_
    show own_Goes p e below (T67.setTop (mkF m 136 #[.val (.int x0), .val (.int x1), .val (.int x2), .val (.int x3), .val (.int (1 : Int32)), .val (.ref r_1), .val (.ref r_5), .val (.ref r_9), .val (.ref r_58), .val (.ref rl_58), .val (.ref gwE)] [(.ref gwE)])) _
    have q68 := G6.ext O59.2
    have q69 := G7.ext O59.2
    have q70 := G3.ext O59.2
    obtain ⟨cqiv71, kqiv71, qiv71a, qiv71b, qiv71c⟩ := isOf hZ9 e67 q70
    obtain ⟨_, _, ⟨T72, L72, k72, n72⟩, -, X72, ⟨Lc72, hQ72, l72, y72, z72⟩, st72⟩ := X67.interfaceBack hx (xi := own_m30) (y := own_m31) hown9 (mvT hZ9 (hw _ (List.mem_of_getElem? (i := 68) rfl))) (mvT hZ9 (hw _ (List.mem_of_getElem? (i := 69) rfl))) (mvT hZ9 (hw _ (List.mem_of_getElem? (i := 70) rfl))) (mvT hZ9 (hw _ (List.mem_of_getElem? (i := 71) rfl))) (mvT hZ9 (hw _ (List.mem_of_getElem? (i := 72) rfl))) (mvT hZ9 (hw _ (List.mem_of_getElem? (i := 73) rfl))) (mvT hZ9 (hw _ (List.mem_of_getElem? (i := 74) rfl))) (mvT hZ9 (hw _ (List.mem_of_getElem? (i := 75) rfl))) (by decide) (backOf (W := 0) (own_lnSize0 l Z a0 hw [] gwE gwA gk h58 n0 O59 q68 q69) hZ9 (hw _ (List.mem_of_getElem? (i := 77) rfl)) (hw _ (List.mem_of_getElem? (i := 76) rfl)) (by decide) (by decide)) qiv71a qiv71b qiv71c (g := (mkF m 136 #[.val (.int x0), .val (.int x1), .val (.int x2), .val (.int x3), .val (.int (1 : Int32)), .val (.ref r_1), .val (.ref r_5), .val (.ref r_9), .val (.ref r_58), .val (.ref rl_58), .val (.ref gwE)] [(.ref gwE)])) rfl (by rw [hml]; rfl) (Steps.refl _) (argsL := []) (rest := []) (lenOf own_pd_29 rfl) rfl (by show 2 * 0 + _ ≤ _; exact Nat.le_of_eq rfl) (hb hby at_136) (fun _ _ => ⟨rfl, e67, (by decide : 21 + 0 ≤ _), (by decide : 41 + 0 ≤ _)⟩)
    dsimp only [Pt.U, Pt.locs, Pt.cells, Pt.slots] at X72 l72 y72 z72 st72 hQ72
    subst l72 y72 z72
    obtain ⟨Nc72, e72, rfl⟩ := hQ72
    have N72 := Fr.app N67 Nc72
    refine own_goS st72 ?_
    show own_Goes p e below (T72.setTop (mkF m 141 #[.val (.int x0), .val (.int x1), .val (.int x2), .val (.int x3), .val (.int (1 : Int32)), .val (.ref r_1), .val (.ref r_5), .val (.ref r_9), .val (.ref r_58), .val (.ref rl_58), .val (.ref gwE)] [(.int (0 : Int32))])) _
    refine own_go (fun t_ k_ => XS.ifYes X72.here hx rfl (pc0 := 141) (pc' := 146) rfl (hb hby at_141) rfl ((if0 _ _).trans (teq (show ((0 : Int32) = (0 : Int32)) from by decide)).1) (by decide) (by decide) k_) ?_
    show own_Goes p e below (T72.setTop (mkF m 146 #[.val (.int x0), .val (.int x1), .val (.int x2), .val (.int x3), .val (.int (1 : Int32)), .val (.ref r_1), .val (.ref r_5), .val (.ref r_9), .val (.ref r_58), .val (.ref rl_58), .val (.ref gwE)] [])) _
    refine own_go (fun t_ k_ => XS.aload X72.here hx rfl (hb hby at_146) rfl rfl k_) ?_
    show own_Goes p e below (T72.setTop (mkF m 148 #[.val (.int x0), .val (.int x1), .val (.int x2), .val (.int x3), .val (.int (1 : Int32)), .val (.ref r_1), .val (.ref r_5), .val (.ref r_9), .val (.ref r_58), .val (.ref rl_58), .val (.ref gwE)] [(.ref rl_58)])) _
    refine own_go (fun t_ k_ => XS.ifnullNo X72.here hx rfl (hb hby at_148) rfl k_) ?_
    show own_Goes p e below (T72.setTop (mkF m 151 #[.val (.int x0), .val (.int x1), .val (.int x2), .val (.int x3), .val (.int (1 : Int32)), .val (.ref r_1), .val (.ref r_5), .val (.ref r_9), .val (.ref r_58), .val (.ref rl_58), .val (.ref gwE)] [])) _
    refine own_go (fun t_ k_ => XS.aload X72.here hx rfl (hb hby at_151) rfl rfl k_) ?_
    show own_Goes p e below (T72.setTop (mkF m 153 #[.val (.int x0), .val (.int x1), .val (.int x2), .val (.int x3), .val (.int (1 : Int32)), .val (.ref r_1), .val (.ref r_5), .val (.ref r_9), .val (.ref r_58), .val (.ref rl_58), .val (.ref gwE)] [(.ref rl_58)])) _
    obtain ⟨cqiv73, kqiv73, qiv73a, qiv73b, qiv73c⟩ := isOf hZ9 e72 c58_4
    obtain ⟨_, _, ⟨T74, L74, k74, n74⟩, -, X74, ⟨Lc74, hQ74, l74, y74, z74⟩, st74⟩ := X72.interfaceBack hx (xi := own_m30) (y := own_m32) hown9 (mvT hZ9 (hw _ (List.mem_of_getElem? (i := 68) rfl))) (mvT hZ9 (hw _ (List.mem_of_getElem? (i := 69) rfl))) (mvT hZ9 (hw _ (List.mem_of_getElem? (i := 70) rfl))) (mvT hZ9 (hw _ (List.mem_of_getElem? (i := 149) rfl))) (mvT hZ9 (hw _ (List.mem_of_getElem? (i := 150) rfl))) (mvT hZ9 (hw _ (List.mem_of_getElem? (i := 151) rfl))) (mvT hZ9 (hw _ (List.mem_of_getElem? (i := 152) rfl))) (mvT hZ9 (hw _ (List.mem_of_getElem? (i := 153) rfl))) (by decide) (backOf (W := 0) (own_l12Size1 l Z a0 hw [] rl_58 h58 n0 O59 gz gwE gwO gwA gk G c58_6) hZ9 (hw _ (List.mem_of_getElem? (i := 154) rfl)) (hw _ (List.mem_of_getElem? (i := 135) rfl)) (by decide) (by decide)) qiv73a qiv73b qiv73c (g := (mkF m 153 #[.val (.int x0), .val (.int x1), .val (.int x2), .val (.int x3), .val (.int (1 : Int32)), .val (.ref r_1), .val (.ref r_5), .val (.ref r_9), .val (.ref r_58), .val (.ref rl_58), .val (.ref gwE)] [(.ref rl_58)])) rfl (by rw [hml]; rfl) (Steps.refl _) (argsL := []) (rest := []) (lenOf own_pd_29 rfl) rfl (by show 2 * 0 + _ ≤ _; exact Nat.le_of_eq rfl) (hb hby at_153) (fun _ _ => ⟨rfl, e72, (by decide : 21 + 0 ≤ _), (by decide : 41 + 0 ≤ _)⟩)
    dsimp only [Pt.U, Pt.locs, Pt.cells, Pt.slots] at X74 l74 y74 z74 st74 hQ74
    subst l74 y74 z74
    obtain ⟨Nc74, e74, rfl⟩ := hQ74
    have N74 := Fr.app N72 Nc74
    refine own_goS st74 ?_
    show own_Goes p e below (T74.setTop (mkF m 158 #[.val (.int x0), .val (.int x1), .val (.int x2), .val (.int x3), .val (.int (1 : Int32)), .val (.ref r_1), .val (.ref r_5), .val (.ref r_9), .val (.ref r_58), .val (.ref rl_58), .val (.ref gwE)] [(.int (1 : Int32))])) _
    refine own_go (fun t_ k_ => XS.iload X74.here hx rfl (hb hby at_158) rfl k_) ?_
    show own_Goes p e below (T74.setTop (mkF m 160 #[.val (.int x0), .val (.int x1), .val (.int x2), .val (.int x3), .val (.int (1 : Int32)), .val (.ref r_1), .val (.ref r_5), .val (.ref r_9), .val (.ref r_58), .val (.ref rl_58), .val (.ref gwE)] [(.int (1 : Int32)), (.int (1 : Int32))])) _
    refine own_go (fun t_ k_ => XS.icmpYes X74.here hx rfl (pc0 := 160) (pc' := 165) rfl (hb hby at_160) rfl (teq (show ((1 : Int32) = (1 : Int32)) from by decide)).1 (by decide) (by decide) k_) ?_
    show own_Goes p e below (T74.setTop (mkF m 165 #[.val (.int x0), .val (.int x1), .val (.int x2), .val (.int x3), .val (.int (1 : Int32)), .val (.ref r_1), .val (.ref r_5), .val (.ref r_9), .val (.ref r_58), .val (.ref rl_58), .val (.ref gwE)] [])) _
    refine own_go (fun t_ k_ => XS.iload X74.here hx rfl (hb hby at_165) rfl k_) ?_
    show own_Goes p e below (T74.setTop (mkF m 167 #[.val (.int x0), .val (.int x1), .val (.int x2), .val (.int x3), .val (.int (1 : Int32)), .val (.ref r_1), .val (.ref r_5), .val (.ref r_9), .val (.ref r_58), .val (.ref rl_58), .val (.ref gwE)] [(.int (1 : Int32))])) _
    refine own_go (fun t_ k_ => XS.iconst X74.here hx rfl (hb hby at_167) k_) ?_
    show own_Goes p e below (T74.setTop (mkF m 168 #[.val (.int x0), .val (.int x1), .val (.int x2), .val (.int x3), .val (.int (1 : Int32)), .val (.ref r_1), .val (.ref r_5), .val (.ref r_9), .val (.ref r_58), .val (.ref rl_58), .val (.ref gwE)] [(.int (1 : Int32)), (.int (1 : Int32))])) _
    refine own_go (fun t_ k_ => XS.icmpNo X74.here hx rfl (hb hby at_168) rfl (flt (show ¬ ((1 : Int32) < (1 : Int32)) from by decide)).1 k_) ?_
    show own_Goes p e below (T74.setTop (mkF m 171 #[.val (.int x0), .val (.int x1), .val (.int x2), .val (.int x3), .val (.int (1 : Int32)), .val (.ref r_1), .val (.ref r_5), .val (.ref r_9), .val (.ref r_58), .val (.ref rl_58), .val (.ref gwE)] [])) _
    refine own_go (fun t_ k_ => XS.aload X74.here hx rfl (hb hby at_171) rfl rfl k_) ?_
    show own_Goes p e below (T74.setTop (mkF m 173 #[.val (.int x0), .val (.int x1), .val (.int x2), .val (.int x3), .val (.int (1 : Int32)), .val (.ref r_1), .val (.ref r_5), .val (.ref r_9), .val (.ref r_58), .val (.ref rl_58), .val (.ref gwE)] [(.ref r_1)])) _
    refine own_go (fun t_ k_ => XS.aload X74.here hx rfl (hb hby at_173) rfl rfl k_) ?_
    show own_Goes p e below (T74.setTop (mkF m 175 #[.val (.int x0), .val (.int x1), .val (.int x2), .val (.int x3), .val (.int (1 : Int32)), .val (.ref r_1), .val (.ref r_5), .val (.ref r_9), .val (.ref r_58), .val (.ref rl_58), .val (.ref gwE)] [(.ref rl_58), (.ref r_1)])) _
    refine own_go (fun t_ k_ => XS.iconst X74.here hx rfl (hb hby at_175) k_) ?_
    show own_Goes p e below (T74.setTop (mkF m 176 #[.val (.int x0), .val (.int x1), .val (.int x2), .val (.int x3), .val (.int (1 : Int32)), .val (.ref r_1), .val (.ref r_5), .val (.ref r_9), .val (.ref r_58), .val (.ref rl_58), .val (.ref gwE)] [(.int (0 : Int32)), (.ref rl_58), (.ref r_1)])) _
    obtain ⟨cqiv75, kqiv75, qiv75a, qiv75b, qiv75c⟩ := isOf hZ9 e74 c58_4
    obtain ⟨_, _, ⟨T76, L76, k76, n76⟩, -, X76, ⟨Lc76, hQ76, l76, y76, z76⟩, st76⟩ := X74.interfaceBack hx (xi := own_m34) (y := own_m35) hown9 (mvT hZ9 (hw _ (List.mem_of_getElem? (i := 120) rfl))) (mvT hZ9 (hw _ (List.mem_of_getElem? (i := 121) rfl))) (mvT hZ9 (hw _ (List.mem_of_getElem? (i := 122) rfl))) (mvT hZ9 (hw _ (List.mem_of_getElem? (i := 156) rfl))) (mvT hZ9 (hw _ (List.mem_of_getElem? (i := 157) rfl))) (mvT hZ9 (hw _ (List.mem_of_getElem? (i := 158) rfl))) (mvT hZ9 (hw _ (List.mem_of_getElem? (i := 159) rfl))) (mvT hZ9 (hw _ (List.mem_of_getElem? (i := 153) rfl))) (by decide) (backOf (W := 1) (own_l12Get0 l Z a0 hw [] rl_58 r_1 h58 n0 O59 c58_5) hZ9 (hw _ (List.mem_of_getElem? (i := 160) rfl)) (hw _ (List.mem_of_getElem? (i := 135) rfl)) (by decide) (by decide)) qiv75a qiv75b qiv75c (g := (mkF m 176 #[.val (.int x0), .val (.int x1), .val (.int x2), .val (.int x3), .val (.int (1 : Int32)), .val (.ref r_1), .val (.ref r_5), .val (.ref r_9), .val (.ref r_58), .val (.ref rl_58), .val (.ref gwE)] [(.int (0 : Int32)), (.ref rl_58), (.ref r_1)])) rfl (by rw [hml]; rfl) (Steps.refl _) (argsL := [(.int (0 : Int32))]) (rest := [(.ref r_1)]) (lenOf own_pd_33 rfl) rfl (by show 2 * 0 + _ ≤ _; exact Nat.le_of_eq rfl) (hb hby at_176) (fun _ _ => ⟨rfl, e74, (by decide : 21 + 0 ≤ _), (by decide : 41 + 0 ≤ _)⟩)
    dsimp only [Pt.U, Pt.locs, Pt.cells, Pt.slots] at X76 l76 y76 z76 st76 hQ76
    subst l76 y76 z76
    obtain ⟨Nc76, e76, rfl⟩ := hQ76
    have N76 := Fr.app N74 Nc76
    refine own_goS st76 ?_
    show own_Goes p e below (T76.setTop (mkF m 181 #[.val (.int x0), .val (.int x1), .val (.int x2), .val (.int x3), .val (.int (1 : Int32)), .val (.ref r_1), .val (.ref r_5), .val (.ref r_9), .val (.ref r_58), .val (.ref rl_58), .val (.ref gwE)] [(.ref r_1), (.ref r_1)])) _
    have f77 := (f57.keep Kc58)
    obtain ⟨cqiv78, kqiv78, qiv78a, qiv78b, qiv78c⟩ := isOf hZ9 e76 f77
    obtain ⟨_, _, ⟨T79, L79, k79, n79⟩, -, X79, ⟨Lc79, hQ79, l79, y79, z79⟩, st79⟩ := X76.virtualBack hx (y := own_m37) (z := own_m37) hown9 (mvT hZ9 (hw _ (List.mem_of_getElem? (i := 128) rfl))) (mvT hZ9 (hw _ (List.mem_of_getElem? (i := 129) rfl))) (notFace_of_selects (args := #[]) (mvT hZ9 (hw _ (List.mem_of_getElem? (i := 131) rfl)))) (mvT hZ9 (hw _ (List.mem_of_getElem? (i := 131) rfl))) (mvT hZ9 (hw _ (List.mem_of_getElem? (i := 130) rfl))) (by decide) (backOf (W := 0) (own_eqSelf l Z a0 hw [] r_1 h58 n0 O59) hZ9 (hw _ (List.mem_of_getElem? (i := 132) rfl)) (hw _ (List.mem_of_getElem? (i := 6) rfl)) (by decide) (by decide)) qiv78a qiv78c (g := (mkF m 181 #[.val (.int x0), .val (.int x1), .val (.int x2), .val (.int x3), .val (.int (1 : Int32)), .val (.ref r_1), .val (.ref r_5), .val (.ref r_9), .val (.ref r_58), .val (.ref rl_58), .val (.ref gwE)] [(.ref r_1), (.ref r_1)])) rfl (by rw [hml]; rfl) (Steps.refl _) (argsL := [(.ref r_1)]) (rest := []) (lenOf own_pd_36 rfl) rfl (by show 2 * 0 + _ ≤ _; exact Nat.le_of_eq rfl) (hb hby at_181) (fun _ _ => ⟨rfl, e76, (by decide : 21 + 0 ≤ _), (by decide : 41 + 0 ≤ _)⟩)
    dsimp only [Pt.U, Pt.locs, Pt.cells, Pt.slots] at X79 l79 y79 z79 st79 hQ79
    subst l79 y79 z79
    obtain ⟨Nc79, e79, rfl⟩ := hQ79
    have N79 := Fr.app N76 Nc79
    refine own_goS st79 ?_
    show own_Goes p e below (T79.setTop (mkF m 184 #[.val (.int x0), .val (.int x1), .val (.int x2), .val (.int x3), .val (.int (1 : Int32)), .val (.ref r_1), .val (.ref r_5), .val (.ref r_9), .val (.ref r_58), .val (.ref rl_58), .val (.ref gwE)] [(.int (1 : Int32))])) _
    refine own_go (fun t_ k_ => XS.ifYes X79.here hx rfl (pc0 := 184) (pc' := 189) rfl (hb hby at_184) rfl ((if0 _ _).trans (feq (show ¬ ((1 : Int32) = (0 : Int32)) from by decide)).2) (by decide) (by decide) k_) ?_
    show own_Goes p e below (T79.setTop (mkF m 189 #[.val (.int x0), .val (.int x1), .val (.int x2), .val (.int x3), .val (.int (1 : Int32)), .val (.ref r_1), .val (.ref r_5), .val (.ref r_9), .val (.ref r_58), .val (.ref rl_58), .val (.ref gwE)] [])) _
    refine own_go (fun t_ k_ => XS.iload X79.here hx rfl (hb hby at_189) rfl k_) ?_
    show own_Goes p e below (T79.setTop (mkF m 191 #[.val (.int x0), .val (.int x1), .val (.int x2), .val (.int x3), .val (.int (1 : Int32)), .val (.ref r_1), .val (.ref r_5), .val (.ref r_9), .val (.ref r_58), .val (.ref rl_58), .val (.ref gwE)] [(.int (1 : Int32))])) _
    refine own_go (fun t_ k_ => XS.iconst X79.here hx rfl (hb hby at_191) k_) ?_
    show own_Goes p e below (T79.setTop (mkF m 192 #[.val (.int x0), .val (.int x1), .val (.int x2), .val (.int x3), .val (.int (1 : Int32)), .val (.ref r_1), .val (.ref r_5), .val (.ref r_9), .val (.ref r_58), .val (.ref rl_58), .val (.ref gwE)] [(.int (2 : Int32)), (.int (1 : Int32))])) _
    refine own_go (fun t_ k_ => XS.icmpYes X79.here hx rfl (pc0 := 192) (pc' := 213) rfl (hb hby at_192) rfl (tlt (show ((1 : Int32) < (2 : Int32)) from by decide)).1 (by decide) (by decide) k_) ?_
    show own_Goes p e below (T79.setTop (mkF m 213 #[.val (.int x0), .val (.int x1), .val (.int x2), .val (.int x3), .val (.int (1 : Int32)), .val (.ref r_1), .val (.ref r_5), .val (.ref r_9), .val (.ref r_58), .val (.ref rl_58), .val (.ref gwE)] [])) _
    refine own_go (fun t_ k_ => XS.iload X79.here hx rfl (hb hby at_213) rfl k_) ?_
    show own_Goes p e below (T79.setTop (mkF m 215 #[.val (.int x0), .val (.int x1), .val (.int x2), .val (.int x3), .val (.int (1 : Int32)), .val (.ref r_1), .val (.ref r_5), .val (.ref r_9), .val (.ref r_58), .val (.ref rl_58), .val (.ref gwE)] [(.int (1 : Int32))])) _
    refine own_go (fun t_ k_ => XS.iconst X79.here hx rfl (hb hby at_215) k_) ?_
    show own_Goes p e below (T79.setTop (mkF m 216 #[.val (.int x0), .val (.int x1), .val (.int x2), .val (.int x3), .val (.int (1 : Int32)), .val (.ref r_1), .val (.ref r_5), .val (.ref r_9), .val (.ref r_58), .val (.ref rl_58), .val (.ref gwE)] [(.int (3 : Int32)), (.int (1 : Int32))])) _
    refine own_go (fun t_ k_ => XS.icmpYes X79.here hx rfl (pc0 := 216) (pc' := 237) rfl (hb hby at_216) rfl (tlt (show ((1 : Int32) < (3 : Int32)) from by decide)).1 (by decide) (by decide) k_) ?_
    show own_Goes p e below (T79.setTop (mkF m 237 #[.val (.int x0), .val (.int x1), .val (.int x2), .val (.int x3), .val (.int (1 : Int32)), .val (.ref r_1), .val (.ref r_5), .val (.ref r_9), .val (.ref r_58), .val (.ref rl_58), .val (.ref gwE)] [])) _
    refine own_go (fun t_ k_ => XS.iconst X79.here hx rfl (hb hby at_237) k_) ?_
    show own_Goes p e below (T79.setTop (mkF m 238 #[.val (.int x0), .val (.int x1), .val (.int x2), .val (.int x3), .val (.int (1 : Int32)), .val (.ref r_1), .val (.ref r_5), .val (.ref r_9), .val (.ref r_58), .val (.ref rl_58), .val (.ref gwE)] [(.int (1 : Int32))])) _
    refine own_endH X79 hS9 (show _ ≤ T79.heap.size by rw [e79]; exact hk63) e79 hh CR62 hZ9 (own_EW hw) (v := (some (.int (1 : Int32)))) (fun h => by rw [hret] at h; cases h) hlk (by decide) (by decide) ?_ (fun fs hr => retOut X79 hx hret rfl (Or.inl ⟨rfl, Or.inr (Or.inl rfl), _, rfl⟩) (hb hby at_238) hr)
    show Q_rm0 Z x0 x1 x2 x3 gz gwE gwO gwA gk h0 n0 _ T79.heap _
    rw [e79]
    exact ⟨N79, trivial, rfl⟩
  · rw [hl15]
    show own_Goes p e below (T9.setTop (mkF m 23 #[.val (.int x0), .val (.int x1), .val (.int x2), .val (.int x3), .val (.int (2 : Int32)), .val (.ref r_1), .val (.ref r_5), .val (.ref r_9), .unset, .unset, .unset] [])) _
    refine own_go (fun t_ k_ => XS.iload X9.here hx rfl (hb hby at_23) rfl k_) ?_
    show own_Goes p e below (T9.setTop (mkF m 25 #[.val (.int x0), .val (.int x1), .val (.int x2), .val (.int x3), .val (.int (2 : Int32)), .val (.ref r_1), .val (.ref r_5), .val (.ref r_9), .unset, .unset, .unset] [(.int (2 : Int32))])) _
    refine own_go (fun t_ k_ => XS.ifYes X9.here hx rfl (pc0 := 25) (pc' := 40) rfl (hb hby at_25) rfl ((if0 _ _).trans (feq (show ¬ ((2 : Int32) = (0 : Int32)) from by decide)).2) (by decide) (by decide) k_) ?_
    show own_Goes p e below (T9.setTop (mkF m 40 #[.val (.int x0), .val (.int x1), .val (.int x2), .val (.int x3), .val (.int (2 : Int32)), .val (.ref r_1), .val (.ref r_5), .val (.ref r_9), .unset, .unset, .unset] [])) _
    refine own_go (fun t_ k_ => XS.iload X9.here hx rfl (hb hby at_40) rfl k_) ?_
    show own_Goes p e below (T9.setTop (mkF m 42 #[.val (.int x0), .val (.int x1), .val (.int x2), .val (.int x3), .val (.int (2 : Int32)), .val (.ref r_1), .val (.ref r_5), .val (.ref r_9), .unset, .unset, .unset] [(.int (2 : Int32))])) _
    refine own_go (fun t_ k_ => XS.iconst X9.here hx rfl (hb hby at_42) k_) ?_
    show own_Goes p e below (T9.setTop (mkF m 43 #[.val (.int x0), .val (.int x1), .val (.int x2), .val (.int x3), .val (.int (2 : Int32)), .val (.ref r_1), .val (.ref r_5), .val (.ref r_9), .unset, .unset, .unset] [(.int (1 : Int32)), (.int (2 : Int32))])) _
    refine own_go (fun t_ k_ => XS.icmpYes X9.here hx rfl (pc0 := 43) (pc' := 63) rfl (hb hby at_43) rfl (feq (show ¬ ((2 : Int32) = (1 : Int32)) from by decide)).2 (by decide) (by decide) k_) ?_
    show own_Goes p e below (T9.setTop (mkF m 63 #[.val (.int x0), .val (.int x1), .val (.int x2), .val (.int x3), .val (.int (2 : Int32)), .val (.ref r_1), .val (.ref r_5), .val (.ref r_9), .unset, .unset, .unset] [])) _
    refine own_go (fun t_ k_ => XS.iload X9.here hx rfl (hb hby at_63) rfl k_) ?_
    show own_Goes p e below (T9.setTop (mkF m 65 #[.val (.int x0), .val (.int x1), .val (.int x2), .val (.int x3), .val (.int (2 : Int32)), .val (.ref r_1), .val (.ref r_5), .val (.ref r_9), .unset, .unset, .unset] [(.int (2 : Int32))])) _
    refine own_go (fun t_ k_ => XS.iconst X9.here hx rfl (hb hby at_65) k_) ?_
    show own_Goes p e below (T9.setTop (mkF m 66 #[.val (.int x0), .val (.int x1), .val (.int x2), .val (.int x3), .val (.int (2 : Int32)), .val (.ref r_1), .val (.ref r_5), .val (.ref r_9), .unset, .unset, .unset] [(.int (2 : Int32)), (.int (2 : Int32))])) _
    refine own_go (fun t_ k_ => XS.icmpNo X9.here hx rfl (hb hby at_66) rfl (teq (show ((2 : Int32) = (2 : Int32)) from by decide)).2 k_) ?_
    show own_Goes p e below (T9.setTop (mkF m 69 #[.val (.int x0), .val (.int x1), .val (.int x2), .val (.int x3), .val (.int (2 : Int32)), .val (.ref r_1), .val (.ref r_5), .val (.ref r_9), .unset, .unset, .unset] [])) _
    refine own_go (fun t_ k_ => XS.iconst X9.here hx rfl (hb hby at_69) k_) ?_
    show own_Goes p e below (T9.setTop (mkF m 70 #[.val (.int x0), .val (.int x1), .val (.int x2), .val (.int x3), .val (.int (2 : Int32)), .val (.ref r_1), .val (.ref r_5), .val (.ref r_9), .unset, .unset, .unset] [(.int (2 : Int32))])) _
    obtain ⟨T80, h80, k80, X80, e80, E80, A80, Ov80, st80⟩ := newR X9 hx hZ9 hown9 (hw _ (List.mem_of_getElem? (i := 4) rfl)) (hw _ (List.mem_of_getElem? (i := 34) rfl)) e9 (g := (mkF m 70 #[.val (.int x0), .val (.int x1), .val (.int x2), .val (.int x3), .val (.int (2 : Int32)), .val (.ref r_1), .val (.ref r_5), .val (.ref r_9), .unset, .unset, .unset] [(.int (2 : Int32))])) rfl (hb hby at_70) rfl (by decide) (cap := 2) (by decide) (by decide) (by decide) (by decide)
    obtain ⟨b80, g80⟩ : ∃ z, z = h9.size := ⟨_, rfl⟩
    rw [← g80] at A80 st80
    refine own_go st80 ?_
    have O81 := O10.ext E80
    have sz82 : h9.size ≤ h80.size := E80.1
    have cs83 := CHr.ext E80 CR12.1
    have CR84 := CHr.trans CR12 cs83
    have hk85 := Nat.le_trans hk9 E80.1
    have l80 : @LT.lt Nat _ b80 h80.size := A80.lt
    have V80 : Arv Z h80 b80 k80 (.object "java/lang/String") (2 : Int32) [.null, .null] .null := (Arv.new A80 (by decide)).pad (pad_rep [] .null 2)
    show own_Goes p e below (T80.setTop (mkF m 73 #[.val (.int x0), .val (.int x1), .val (.int x2), .val (.int x3), .val (.int (2 : Int32)), .val (.ref r_1), .val (.ref r_5), .val (.ref r_9), .unset, .unset, .unset] [(.ref b80)])) _
    refine own_go (fun t_ k_ => XS.dup X80.here hx rfl (hb hby at_73) rfl rfl k_) ?_
    show own_Goes p e below (T80.setTop (mkF m 74 #[.val (.int x0), .val (.int x1), .val (.int x2), .val (.int x3), .val (.int (2 : Int32)), .val (.ref r_1), .val (.ref r_5), .val (.ref r_9), .unset, .unset, .unset] [(.ref b80), (.ref b80)])) _
    refine own_go (fun t_ k_ => XS.iconst X80.here hx rfl (hb hby at_74) k_) ?_
    show own_Goes p e below (T80.setTop (mkF m 75 #[.val (.int x0), .val (.int x1), .val (.int x2), .val (.int x3), .val (.int (2 : Int32)), .val (.ref r_1), .val (.ref r_5), .val (.ref r_9), .unset, .unset, .unset] [(.int (0 : Int32)), (.ref b80), (.ref b80)])) _
    refine own_go (fun t_ k_ => XS.aload X80.here hx rfl (hb hby at_75) rfl rfl k_) ?_
    show own_Goes p e below (T80.setTop (mkF m 77 #[.val (.int x0), .val (.int x1), .val (.int x2), .val (.int x3), .val (.int (2 : Int32)), .val (.ref r_1), .val (.ref r_5), .val (.ref r_9), .unset, .unset, .unset] [(.ref r_1), (.int (0 : Int32)), (.ref b80), (.ref b80)])) _
    obtain ⟨clu86, Aru86, qu86, Szu86, Ngu86, Hsu86, Gsu86⟩ := id V80
    have inu86 : ¬ ((0 : Int32) < 0 ∨ clu86.slots.size ≤ ((0 : Int32)).toNatClampNeg) := inb_of Szu86 ⟨by decide, by decide⟩
    have f87 := (((c1_0.keep Kc5).keep Kc9).ext E80)
    obtain ⟨T88, h88, X88, e88, W88, st88⟩ := stR X80 hx hZ9 e80 Aru86 (j := (0 : Int32)) inu86 rfl (Sto.ofV Aru86 qu86 Ov80 (Ins.self f87)) (g := (mkF m 77 #[.val (.int x0), .val (.int x1), .val (.int x2), .val (.int x3), .val (.int (2 : Int32)), .val (.ref r_1), .val (.ref r_5), .val (.ref r_9), .unset, .unset, .unset] [(.ref r_1), (.int (0 : Int32)), (.ref b80), (.ref b80)])) rfl rfl (hb hby at_77)
    refine own_go st88 ?_
    have V88 := Arv.set Aru86 qu86 Szu86 Ngu86 Hsu86 Gsu86 rfl W88 0 rfl (Nat.le_of_ble_eq_true rfl)
    have O89 := O81.wr W88 (show n0 ≤ b80 by omega)
    have sz90 : h88.size = h80.size := Wr.size W88
    have cs91 := CHr.wr W88 (Safe.arv hZ9.alike V80 (by decide)) CR84.1
    have CR92 := CHr.trans CR84 cs91
    have hk93 := Nat.le_trans hk85 (Nat.le_of_eq (Wr.size W88).symm)
    have N88 := Fr.snoc X88 N9 (show n0 ≤ b80 by omega)
    have V88 : Arv Z h88 b80 k80 (.object "java/lang/String") (2 : Int32) [(.ref r_1), .null] .null := V88
    show own_Goes p e below (T88.setTop (mkF m 78 #[.val (.int x0), .val (.int x1), .val (.int x2), .val (.int x3), .val (.int (2 : Int32)), .val (.ref r_1), .val (.ref r_5), .val (.ref r_9), .unset, .unset, .unset] [(.ref b80)])) _
    refine own_go (fun t_ k_ => XS.dup X88.here hx rfl (hb hby at_78) rfl rfl k_) ?_
    show own_Goes p e below (T88.setTop (mkF m 79 #[.val (.int x0), .val (.int x1), .val (.int x2), .val (.int x3), .val (.int (2 : Int32)), .val (.ref r_1), .val (.ref r_5), .val (.ref r_9), .unset, .unset, .unset] [(.ref b80), (.ref b80)])) _
    refine own_go (fun t_ k_ => XS.iconst X88.here hx rfl (hb hby at_79) k_) ?_
    show own_Goes p e below (T88.setTop (mkF m 80 #[.val (.int x0), .val (.int x1), .val (.int x2), .val (.int x3), .val (.int (2 : Int32)), .val (.ref r_1), .val (.ref r_5), .val (.ref r_9), .unset, .unset, .unset] [(.int (1 : Int32)), (.ref b80), (.ref b80)])) _
    refine own_go (fun t_ k_ => XS.aload X88.here hx rfl (hb hby at_80) rfl rfl k_) ?_
    show own_Goes p e below (T88.setTop (mkF m 82 #[.val (.int x0), .val (.int x1), .val (.int x2), .val (.int x3), .val (.int (2 : Int32)), .val (.ref r_1), .val (.ref r_5), .val (.ref r_9), .unset, .unset, .unset] [(.ref r_5), (.int (1 : Int32)), (.ref b80), (.ref b80)])) _
    obtain ⟨clu94, Aru94, qu94, Szu94, Ngu94, Hsu94, Gsu94⟩ := id V88
    have inu94 : ¬ ((1 : Int32) < 0 ∨ clu94.slots.size ≤ ((1 : Int32)).toNatClampNeg) := inb_of Szu94 ⟨by decide, by decide⟩
    have f95 := (((c5_0.keep Kc9).ext E80).wr W88)
    obtain ⟨T96, h96, X96, e96, W96, st96⟩ := stR X88 hx hZ9 e88 Aru94 (j := (1 : Int32)) inu94 rfl (Sto.ofV Aru94 qu94 Ov80 (Ins.self f95)) (g := (mkF m 82 #[.val (.int x0), .val (.int x1), .val (.int x2), .val (.int x3), .val (.int (2 : Int32)), .val (.ref r_1), .val (.ref r_5), .val (.ref r_9), .unset, .unset, .unset] [(.ref r_5), (.int (1 : Int32)), (.ref b80), (.ref b80)])) rfl rfl (hb hby at_82)
    refine own_go st96 ?_
    have V96 := Arv.set Aru94 qu94 Szu94 Ngu94 Hsu94 Gsu94 rfl W96 1 rfl (Nat.le_of_ble_eq_true rfl)
    have O97 := O89.wr W96 (show n0 ≤ b80 by omega)
    have sz98 : h96.size = h88.size := Wr.size W96
    have cs99 := CHr.wr W96 (Safe.arv hZ9.alike V88 (by decide)) CR92.1
    have CR100 := CHr.trans CR92 cs99
    have hk101 := Nat.le_trans hk93 (Nat.le_of_eq (Wr.size W96).symm)
    have N96 := Fr.snoc X96 N88 (show n0 ≤ b80 by omega)
    have V96 : Arv Z h96 b80 k80 (.object "java/lang/String") (2 : Int32) [(.ref r_1), (.ref r_5)] .null := V96
    show own_Goes p e below (T96.setTop (mkF m 83 #[.val (.int x0), .val (.int x1), .val (.int x2), .val (.int x3), .val (.int (2 : Int32)), .val (.ref r_1), .val (.ref r_5), .val (.ref r_9), .unset, .unset, .unset] [(.ref b80)])) _
    have f102 := ((f87.wr W88).wr W96)
    have f103 := (f95.wr W96)
    obtain ⟨_, _, ⟨T104, L104, k104, n104⟩, -, X104, ⟨Lc104, hQ104, l104, y104, z104⟩, st104⟩ := Jvm.LawKit.callS X96 hx (y := own_m26) hown9 (mvT hZ9 (hw _ (List.mem_of_getElem? (i := 35) rfl))) (mvT hZ9 (hw _ (List.mem_of_getElem? (i := 36) rfl))) (mvT hZ9 (hw _ (List.mem_of_getElem? (i := 37) rfl))) (mvT hZ9 (hw _ (List.mem_of_getElem? (i := 38) rfl))) (by decide) (backOf (W := 0) (own_of2 l Z a0 hw [] b80 k80 r_1 r_5 h96 n0 O97 gz gwE gwO gwA gk G V96 f102 f103) hZ9 (hw _ (List.mem_of_getElem? (i := 38) rfl)) (hw _ (List.mem_of_getElem? (i := 37) rfl)) (by decide) (by decide)) (g := (mkF m 83 #[.val (.int x0), .val (.int x1), .val (.int x2), .val (.int x3), .val (.int (2 : Int32)), .val (.ref r_1), .val (.ref r_5), .val (.ref r_9), .unset, .unset, .unset] [(.ref b80)])) rfl (by rw [hml]; rfl) (argsL := [(.ref b80)]) (rest := []) (lenOf own_pd_25 rfl) rfl (by show 2 * 0 + _ ≤ _; exact Nat.le_of_eq rfl) (hb hby at_83) (fun _ _ => ⟨rfl, e96, (by decide : 19 + 2 ≤ _), (by decide : 38 + 4 ≤ _)⟩)
    dsimp only [Pt.U, Pt.locs, Pt.cells, Pt.slots] at X104 l104 y104 z104 st104 hQ104
    subst l104 y104 z104
    obtain ⟨h104, e104⟩ : ∃ z, T104.heap = z := ⟨_, rfl⟩
    rw [e104] at hQ104
    obtain ⟨Nc104, Kc104, r_104, rl_104, rfl, c104_0, c104_1, c104_2, c104_3, c104_4, c104_5, c104_6⟩ := hQ104
    have N104 := Fr.app N96 Nc104
    have O105 := O97.keep Kc104 all0
    have sz106 : h96.size ≤ h104.size := Kc104.1
    have cs107 := CHr.keep Kc104 sf0 CR100.1
    have CR108 := CHr.trans CR100 cs107
    have hk109 := Nat.le_trans hk101 Kc104.1
    have ltc104_0 : @LT.lt Nat _ r_104 h104.size := c104_0.lt
    have ltc104_4 : @LT.lt Nat _ rl_104 h104.size := c104_4.lt
    refine own_go st104 ?_
    show own_Goes p e below (T104.setTop (mkF m 86 #[.val (.int x0), .val (.int x1), .val (.int x2), .val (.int x3), .val (.int (2 : Int32)), .val (.ref r_1), .val (.ref r_5), .val (.ref r_9), .unset, .unset, .unset] [(.ref r_104)])) _
    refine own_go (fun t_ k_ => XS.astore X104.here hx rfl (hb hby at_86) rfl rfl (l' := #[.val (.int x0), .val (.int x1), .val (.int x2), .val (.int x3), .val (.int (2 : Int32)), .val (.ref r_1), .val (.ref r_5), .val (.ref r_9), .val (.ref r_104), .unset, .unset]) rfl k_) ?_
    show own_Goes p e below (T104.setTop (mkF m 88 #[.val (.int x0), .val (.int x1), .val (.int x2), .val (.int x3), .val (.int (2 : Int32)), .val (.ref r_1), .val (.ref r_5), .val (.ref r_9), .val (.ref r_104), .unset, .unset] [])) _
    refine own_go (fun t_ k_ => XS.goto X104.here hx rfl (pc0 := 88) (pc' := 115) rfl (hb hby at_88) (by decide) (by decide) k_) ?_
    show own_Goes p e below (T104.setTop (mkF m 115 #[.val (.int x0), .val (.int x1), .val (.int x2), .val (.int x3), .val (.int (2 : Int32)), .val (.ref r_1), .val (.ref r_5), .val (.ref r_9), .val (.ref r_104), .unset, .unset] [])) _
    refine own_go (fun t_ k_ => XS.aload X104.here hx rfl (hb hby at_115) rfl rfl k_) ?_
    show own_Goes p e below (T104.setTop (mkF m 117 #[.val (.int x0), .val (.int x1), .val (.int x2), .val (.int x3), .val (.int (2 : Int32)), .val (.ref r_1), .val (.ref r_5), .val (.ref r_9), .val (.ref r_104), .unset, .unset] [(.ref r_104)])) _
    obtain ⟨cqiv110, kqiv110, qiv110a, qiv110b, qiv110c⟩ := isOf hZ9 e104 c104_0
    obtain ⟨_, _, ⟨T111, L111, k111, n111⟩, -, X111, ⟨Lc111, hQ111, l111, y111, z111⟩, st111⟩ := X104.virtualBack hx (y := own_m27) (z := own_m27) hown9 (mvT hZ9 (hw _ (List.mem_of_getElem? (i := 58) rfl))) (mvT hZ9 (hw _ (List.mem_of_getElem? (i := 59) rfl))) (notFace_of_selects (args := #[]) (mvT hZ9 (hw _ (List.mem_of_getElem? (i := 61) rfl)))) (mvT hZ9 (hw _ (List.mem_of_getElem? (i := 61) rfl))) (mvT hZ9 (hw _ (List.mem_of_getElem? (i := 60) rfl))) (by decide) (backOf (W := 0) (own_stm l Z a0 hw [] r_104 rl_104 h104 n0 O105 c104_2) hZ9 (hw _ (List.mem_of_getElem? (i := 62) rfl)) (hw _ (List.mem_of_getElem? (i := 37) rfl)) (by decide) (by decide)) qiv110a qiv110c (g := (mkF m 117 #[.val (.int x0), .val (.int x1), .val (.int x2), .val (.int x3), .val (.int (2 : Int32)), .val (.ref r_1), .val (.ref r_5), .val (.ref r_9), .val (.ref r_104), .unset, .unset] [(.ref r_104)])) rfl (by rw [hml]; rfl) (Steps.refl _) (argsL := []) (rest := []) (lenOf own_pd_18 rfl) rfl (by show 2 * 0 + _ ≤ _; exact Nat.le_of_eq rfl) (hb hby at_117) (fun _ _ => ⟨rfl, e104, (by decide : 21 + 0 ≤ _), (by decide : 42 + 0 ≤ _)⟩)
    dsimp only [Pt.U, Pt.locs, Pt.cells, Pt.slots] at X111 l111 y111 z111 st111 hQ111
    subst l111 y111 z111
    obtain ⟨Nc111, e111, rfl⟩ := hQ111
    have N111 := Fr.app N104 Nc111
    refine own_goS st111 ?_
    show own_Goes p e below (T111.setTop (mkF m 120 #[.val (.int x0), .val (.int x1), .val (.int x2), .val (.int x3), .val (.int (2 : Int32)), .val (.ref r_1), .val (.ref r_5), .val (.ref r_9), .val (.ref r_104), .unset, .unset] [(.ref rl_104)])) _
    refine own_go (fun t_ k_ => XS.astore X111.here hx rfl (hb hby at_120) rfl rfl (l' := #[.val (.int x0), .val (.int x1), .val (.int x2), .val (.int x3), .val (.int (2 : Int32)), .val (.ref r_1), .val (.ref r_5), .val (.ref r_9), .val (.ref r_104), .val (.ref rl_104), .unset]) rfl k_) ?_
    show own_Goes p e below (T111.setTop (mkF m 122 #[.val (.int x0), .val (.int x1), .val (.int x2), .val (.int x3), .val (.int (2 : Int32)), .val (.ref r_1), .val (.ref r_5), .val (.ref r_9), .val (.ref r_104), .val (.ref rl_104), .unset] [])) _
    refine own_go (fun t_ k_ => XS.aload X111.here hx rfl (hb hby at_122) rfl rfl k_) ?_
    show own_Goes p e below (T111.setTop (mkF m 124 #[.val (.int x0), .val (.int x1), .val (.int x2), .val (.int x3), .val (.int (2 : Int32)), .val (.ref r_1), .val (.ref r_5), .val (.ref r_9), .val (.ref r_104), .val (.ref rl_104), .unset] [(.ref r_104)])) _
    obtain ⟨cqiv112, kqiv112, qiv112a, qiv112b, qiv112c⟩ := isOf hZ9 e111 c104_0
    obtain ⟨_, _, ⟨T113, L113, k113, n113⟩, -, X113, ⟨Lc113, hQ113, l113, y113, z113⟩, st113⟩ := X111.virtualBack hx (y := own_m28) (z := own_m28) hown9 (mvT hZ9 (hw _ (List.mem_of_getElem? (i := 63) rfl))) (mvT hZ9 (hw _ (List.mem_of_getElem? (i := 64) rfl))) (notFace_of_selects (args := #[]) (mvT hZ9 (hw _ (List.mem_of_getElem? (i := 66) rfl)))) (mvT hZ9 (hw _ (List.mem_of_getElem? (i := 66) rfl))) (mvT hZ9 (hw _ (List.mem_of_getElem? (i := 65) rfl))) (by decide) (backOf (W := 0) (own_rew l Z a0 hw [] r_104 gwE h104 n0 O105 c104_1) hZ9 (hw _ (List.mem_of_getElem? (i := 67) rfl)) (hw _ (List.mem_of_getElem? (i := 37) rfl)) (by decide) (by decide)) qiv112a qiv112c (g := (mkF m 124 #[.val (.int x0), .val (.int x1), .val (.int x2), .val (.int x3), .val (.int (2 : Int32)), .val (.ref r_1), .val (.ref r_5), .val (.ref r_9), .val (.ref r_104), .val (.ref rl_104), .unset] [(.ref r_104)])) rfl (by rw [hml]; rfl) (Steps.refl _) (argsL := []) (rest := []) (lenOf own_pd_18 rfl) rfl (by show 2 * 0 + _ ≤ _; exact Nat.le_of_eq rfl) (hb hby at_124) (fun _ _ => ⟨rfl, e111, (by decide : 21 + 0 ≤ _), (by decide : 42 + 0 ≤ _)⟩)
    dsimp only [Pt.U, Pt.locs, Pt.cells, Pt.slots] at X113 l113 y113 z113 st113 hQ113
    subst l113 y113 z113
    obtain ⟨Nc113, e113, rfl⟩ := hQ113
    have N113 := Fr.app N111 Nc113
    refine own_goS st113 ?_
    show own_Goes p e below (T113.setTop (mkF m 127 #[.val (.int x0), .val (.int x1), .val (.int x2), .val (.int x3), .val (.int (2 : Int32)), .val (.ref r_1), .val (.ref r_5), .val (.ref r_9), .val (.ref r_104), .val (.ref rl_104), .unset] [(.ref gwE)])) _
    refine own_go (fun t_ k_ => XS.astore X113.here hx rfl (hb hby at_127) rfl rfl (l' := #[.val (.int x0), .val (.int x1), .val (.int x2), .val (.int x3), .val (.int (2 : Int32)), .val (.ref r_1), .val (.ref r_5), .val (.ref r_9), .val (.ref r_104), .val (.ref rl_104), .val (.ref gwE)]) rfl k_) ?_
    show own_Goes p e below (T113.setTop (mkF m 129 #[.val (.int x0), .val (.int x1), .val (.int x2), .val (.int x3), .val (.int (2 : Int32)), .val (.ref r_1), .val (.ref r_5), .val (.ref r_9), .val (.ref r_104), .val (.ref rl_104), .val (.ref gwE)] [])) _
    refine own_go (fun t_ k_ => XS.aload X113.here hx rfl (hb hby at_129) rfl rfl k_) ?_
    show own_Goes p e below (T113.setTop (mkF m 131 #[.val (.int x0), .val (.int x1), .val (.int x2), .val (.int x3), .val (.int (2 : Int32)), .val (.ref r_1), .val (.ref r_5), .val (.ref r_9), .val (.ref r_104), .val (.ref rl_104), .val (.ref gwE)] [(.ref gwE)])) _
    refine own_go (fun t_ k_ => XS.ifnullNo X113.here hx rfl (hb hby at_131) rfl k_) ?_
    show own_Goes p e below (T113.setTop (mkF m 134 #[.val (.int x0), .val (.int x1), .val (.int x2), .val (.int x3), .val (.int (2 : Int32)), .val (.ref r_1), .val (.ref r_5), .val (.ref r_9), .val (.ref r_104), .val (.ref rl_104), .val (.ref gwE)] [])) _
    refine own_go (fun t_ k_ => XS.aload X113.here hx rfl (hb hby at_134) rfl rfl k_) ?_
    show own_Goes p e below (T113.setTop (mkF m 136 #[.val (.int x0), .val (.int x1), .val (.int x2), .val (.int x3), .val (.int (2 : Int32)), .val (.ref r_1), .val (.ref r_5), .val (.ref r_9), .val (.ref r_104), .val (.ref rl_104), .val (.ref gwE)] [(.ref gwE)])) _
    have q114 := G6.ext O105.2
    have q115 := G7.ext O105.2
    have q116 := G3.ext O105.2
    obtain ⟨cqiv117, kqiv117, qiv117a, qiv117b, qiv117c⟩ := isOf hZ9 e113 q116
    obtain ⟨_, _, ⟨T118, L118, k118, n118⟩, -, X118, ⟨Lc118, hQ118, l118, y118, z118⟩, st118⟩ := X113.interfaceBack hx (xi := own_m30) (y := own_m31) hown9 (mvT hZ9 (hw _ (List.mem_of_getElem? (i := 68) rfl))) (mvT hZ9 (hw _ (List.mem_of_getElem? (i := 69) rfl))) (mvT hZ9 (hw _ (List.mem_of_getElem? (i := 70) rfl))) (mvT hZ9 (hw _ (List.mem_of_getElem? (i := 71) rfl))) (mvT hZ9 (hw _ (List.mem_of_getElem? (i := 72) rfl))) (mvT hZ9 (hw _ (List.mem_of_getElem? (i := 73) rfl))) (mvT hZ9 (hw _ (List.mem_of_getElem? (i := 74) rfl))) (mvT hZ9 (hw _ (List.mem_of_getElem? (i := 75) rfl))) (by decide) (backOf (W := 0) (own_lnSize0 l Z a0 hw [] gwE gwA gk h104 n0 O105 q114 q115) hZ9 (hw _ (List.mem_of_getElem? (i := 77) rfl)) (hw _ (List.mem_of_getElem? (i := 76) rfl)) (by decide) (by decide)) qiv117a qiv117b qiv117c (g := (mkF m 136 #[.val (.int x0), .val (.int x1), .val (.int x2), .val (.int x3), .val (.int (2 : Int32)), .val (.ref r_1), .val (.ref r_5), .val (.ref r_9), .val (.ref r_104), .val (.ref rl_104), .val (.ref gwE)] [(.ref gwE)])) rfl (by rw [hml]; rfl) (Steps.refl _) (argsL := []) (rest := []) (lenOf own_pd_29 rfl) rfl (by show 2 * 0 + _ ≤ _; exact Nat.le_of_eq rfl) (hb hby at_136) (fun _ _ => ⟨rfl, e113, (by decide : 21 + 0 ≤ _), (by decide : 42 + 0 ≤ _)⟩)
    dsimp only [Pt.U, Pt.locs, Pt.cells, Pt.slots] at X118 l118 y118 z118 st118 hQ118
    subst l118 y118 z118
    obtain ⟨Nc118, e118, rfl⟩ := hQ118
    have N118 := Fr.app N113 Nc118
    refine own_goS st118 ?_
    show own_Goes p e below (T118.setTop (mkF m 141 #[.val (.int x0), .val (.int x1), .val (.int x2), .val (.int x3), .val (.int (2 : Int32)), .val (.ref r_1), .val (.ref r_5), .val (.ref r_9), .val (.ref r_104), .val (.ref rl_104), .val (.ref gwE)] [(.int (0 : Int32))])) _
    refine own_go (fun t_ k_ => XS.ifYes X118.here hx rfl (pc0 := 141) (pc' := 146) rfl (hb hby at_141) rfl ((if0 _ _).trans (teq (show ((0 : Int32) = (0 : Int32)) from by decide)).1) (by decide) (by decide) k_) ?_
    show own_Goes p e below (T118.setTop (mkF m 146 #[.val (.int x0), .val (.int x1), .val (.int x2), .val (.int x3), .val (.int (2 : Int32)), .val (.ref r_1), .val (.ref r_5), .val (.ref r_9), .val (.ref r_104), .val (.ref rl_104), .val (.ref gwE)] [])) _
    refine own_go (fun t_ k_ => XS.aload X118.here hx rfl (hb hby at_146) rfl rfl k_) ?_
    show own_Goes p e below (T118.setTop (mkF m 148 #[.val (.int x0), .val (.int x1), .val (.int x2), .val (.int x3), .val (.int (2 : Int32)), .val (.ref r_1), .val (.ref r_5), .val (.ref r_9), .val (.ref r_104), .val (.ref rl_104), .val (.ref gwE)] [(.ref rl_104)])) _
    refine own_go (fun t_ k_ => XS.ifnullNo X118.here hx rfl (hb hby at_148) rfl k_) ?_
    show own_Goes p e below (T118.setTop (mkF m 151 #[.val (.int x0), .val (.int x1), .val (.int x2), .val (.int x3), .val (.int (2 : Int32)), .val (.ref r_1), .val (.ref r_5), .val (.ref r_9), .val (.ref r_104), .val (.ref rl_104), .val (.ref gwE)] [])) _
    refine own_go (fun t_ k_ => XS.aload X118.here hx rfl (hb hby at_151) rfl rfl k_) ?_
    show own_Goes p e below (T118.setTop (mkF m 153 #[.val (.int x0), .val (.int x1), .val (.int x2), .val (.int x3), .val (.int (2 : Int32)), .val (.ref r_1), .val (.ref r_5), .val (.ref r_9), .val (.ref r_104), .val (.ref rl_104), .val (.ref gwE)] [(.ref rl_104)])) _
    obtain ⟨cqiv119, kqiv119, qiv119a, qiv119b, qiv119c⟩ := isOf hZ9 e118 c104_4
    obtain ⟨_, _, ⟨T120, L120, k120, n120⟩, -, X120, ⟨Lc120, hQ120, l120, y120, z120⟩, st120⟩ := X118.interfaceBack hx (xi := own_m30) (y := own_m32) hown9 (mvT hZ9 (hw _ (List.mem_of_getElem? (i := 68) rfl))) (mvT hZ9 (hw _ (List.mem_of_getElem? (i := 69) rfl))) (mvT hZ9 (hw _ (List.mem_of_getElem? (i := 70) rfl))) (mvT hZ9 (hw _ (List.mem_of_getElem? (i := 149) rfl))) (mvT hZ9 (hw _ (List.mem_of_getElem? (i := 150) rfl))) (mvT hZ9 (hw _ (List.mem_of_getElem? (i := 151) rfl))) (mvT hZ9 (hw _ (List.mem_of_getElem? (i := 152) rfl))) (mvT hZ9 (hw _ (List.mem_of_getElem? (i := 153) rfl))) (by decide) (backOf (W := 0) (own_l12Size2 l Z a0 hw [] rl_104 r_5 h104 n0 O105 gz gwE gwO gwA gk G c104_6 (show ¬ r_5 = gwO from (own_ne (by omega)))) hZ9 (hw _ (List.mem_of_getElem? (i := 154) rfl)) (hw _ (List.mem_of_getElem? (i := 135) rfl)) (by decide) (by decide)) qiv119a qiv119b qiv119c (g := (mkF m 153 #[.val (.int x0), .val (.int x1), .val (.int x2), .val (.int x3), .val (.int (2 : Int32)), .val (.ref r_1), .val (.ref r_5), .val (.ref r_9), .val (.ref r_104), .val (.ref rl_104), .val (.ref gwE)] [(.ref rl_104)])) rfl (by rw [hml]; rfl) (Steps.refl _) (argsL := []) (rest := []) (lenOf own_pd_29 rfl) rfl (by show 2 * 0 + _ ≤ _; exact Nat.le_of_eq rfl) (hb hby at_153) (fun _ _ => ⟨rfl, e118, (by decide : 21 + 0 ≤ _), (by decide : 42 + 0 ≤ _)⟩)
    dsimp only [Pt.U, Pt.locs, Pt.cells, Pt.slots] at X120 l120 y120 z120 st120 hQ120
    subst l120 y120 z120
    obtain ⟨Nc120, e120, rfl⟩ := hQ120
    have N120 := Fr.app N118 Nc120
    refine own_goS st120 ?_
    show own_Goes p e below (T120.setTop (mkF m 158 #[.val (.int x0), .val (.int x1), .val (.int x2), .val (.int x3), .val (.int (2 : Int32)), .val (.ref r_1), .val (.ref r_5), .val (.ref r_9), .val (.ref r_104), .val (.ref rl_104), .val (.ref gwE)] [(.int (2 : Int32))])) _
    refine own_go (fun t_ k_ => XS.iload X120.here hx rfl (hb hby at_158) rfl k_) ?_
    show own_Goes p e below (T120.setTop (mkF m 160 #[.val (.int x0), .val (.int x1), .val (.int x2), .val (.int x3), .val (.int (2 : Int32)), .val (.ref r_1), .val (.ref r_5), .val (.ref r_9), .val (.ref r_104), .val (.ref rl_104), .val (.ref gwE)] [(.int (2 : Int32)), (.int (2 : Int32))])) _
    refine own_go (fun t_ k_ => XS.icmpYes X120.here hx rfl (pc0 := 160) (pc' := 165) rfl (hb hby at_160) rfl (teq (show ((2 : Int32) = (2 : Int32)) from by decide)).1 (by decide) (by decide) k_) ?_
    show own_Goes p e below (T120.setTop (mkF m 165 #[.val (.int x0), .val (.int x1), .val (.int x2), .val (.int x3), .val (.int (2 : Int32)), .val (.ref r_1), .val (.ref r_5), .val (.ref r_9), .val (.ref r_104), .val (.ref rl_104), .val (.ref gwE)] [])) _
    refine own_go (fun t_ k_ => XS.iload X120.here hx rfl (hb hby at_165) rfl k_) ?_
    show own_Goes p e below (T120.setTop (mkF m 167 #[.val (.int x0), .val (.int x1), .val (.int x2), .val (.int x3), .val (.int (2 : Int32)), .val (.ref r_1), .val (.ref r_5), .val (.ref r_9), .val (.ref r_104), .val (.ref rl_104), .val (.ref gwE)] [(.int (2 : Int32))])) _
    refine own_go (fun t_ k_ => XS.iconst X120.here hx rfl (hb hby at_167) k_) ?_
    show own_Goes p e below (T120.setTop (mkF m 168 #[.val (.int x0), .val (.int x1), .val (.int x2), .val (.int x3), .val (.int (2 : Int32)), .val (.ref r_1), .val (.ref r_5), .val (.ref r_9), .val (.ref r_104), .val (.ref rl_104), .val (.ref gwE)] [(.int (1 : Int32)), (.int (2 : Int32))])) _
    refine own_go (fun t_ k_ => XS.icmpNo X120.here hx rfl (hb hby at_168) rfl (flt (show ¬ ((2 : Int32) < (1 : Int32)) from by decide)).1 k_) ?_
    show own_Goes p e below (T120.setTop (mkF m 171 #[.val (.int x0), .val (.int x1), .val (.int x2), .val (.int x3), .val (.int (2 : Int32)), .val (.ref r_1), .val (.ref r_5), .val (.ref r_9), .val (.ref r_104), .val (.ref rl_104), .val (.ref gwE)] [])) _
    refine own_go (fun t_ k_ => XS.aload X120.here hx rfl (hb hby at_171) rfl rfl k_) ?_
    show own_Goes p e below (T120.setTop (mkF m 173 #[.val (.int x0), .val (.int x1), .val (.int x2), .val (.int x3), .val (.int (2 : Int32)), .val (.ref r_1), .val (.ref r_5), .val (.ref r_9), .val (.ref r_104), .val (.ref rl_104), .val (.ref gwE)] [(.ref r_1)])) _
    refine own_go (fun t_ k_ => XS.aload X120.here hx rfl (hb hby at_173) rfl rfl k_) ?_
    show own_Goes p e below (T120.setTop (mkF m 175 #[.val (.int x0), .val (.int x1), .val (.int x2), .val (.int x3), .val (.int (2 : Int32)), .val (.ref r_1), .val (.ref r_5), .val (.ref r_9), .val (.ref r_104), .val (.ref rl_104), .val (.ref gwE)] [(.ref rl_104), (.ref r_1)])) _
    refine own_go (fun t_ k_ => XS.iconst X120.here hx rfl (hb hby at_175) k_) ?_
    show own_Goes p e below (T120.setTop (mkF m 176 #[.val (.int x0), .val (.int x1), .val (.int x2), .val (.int x3), .val (.int (2 : Int32)), .val (.ref r_1), .val (.ref r_5), .val (.ref r_9), .val (.ref r_104), .val (.ref rl_104), .val (.ref gwE)] [(.int (0 : Int32)), (.ref rl_104), (.ref r_1)])) _
    obtain ⟨cqiv121, kqiv121, qiv121a, qiv121b, qiv121c⟩ := isOf hZ9 e120 c104_4
    obtain ⟨_, _, ⟨T122, L122, k122, n122⟩, -, X122, ⟨Lc122, hQ122, l122, y122, z122⟩, st122⟩ := X120.interfaceBack hx (xi := own_m34) (y := own_m35) hown9 (mvT hZ9 (hw _ (List.mem_of_getElem? (i := 120) rfl))) (mvT hZ9 (hw _ (List.mem_of_getElem? (i := 121) rfl))) (mvT hZ9 (hw _ (List.mem_of_getElem? (i := 122) rfl))) (mvT hZ9 (hw _ (List.mem_of_getElem? (i := 156) rfl))) (mvT hZ9 (hw _ (List.mem_of_getElem? (i := 157) rfl))) (mvT hZ9 (hw _ (List.mem_of_getElem? (i := 158) rfl))) (mvT hZ9 (hw _ (List.mem_of_getElem? (i := 159) rfl))) (mvT hZ9 (hw _ (List.mem_of_getElem? (i := 153) rfl))) (by decide) (backOf (W := 1) (own_l12Get0 l Z a0 hw [] rl_104 r_1 h104 n0 O105 c104_5) hZ9 (hw _ (List.mem_of_getElem? (i := 160) rfl)) (hw _ (List.mem_of_getElem? (i := 135) rfl)) (by decide) (by decide)) qiv121a qiv121b qiv121c (g := (mkF m 176 #[.val (.int x0), .val (.int x1), .val (.int x2), .val (.int x3), .val (.int (2 : Int32)), .val (.ref r_1), .val (.ref r_5), .val (.ref r_9), .val (.ref r_104), .val (.ref rl_104), .val (.ref gwE)] [(.int (0 : Int32)), (.ref rl_104), (.ref r_1)])) rfl (by rw [hml]; rfl) (Steps.refl _) (argsL := [(.int (0 : Int32))]) (rest := [(.ref r_1)]) (lenOf own_pd_33 rfl) rfl (by show 2 * 0 + _ ≤ _; exact Nat.le_of_eq rfl) (hb hby at_176) (fun _ _ => ⟨rfl, e120, (by decide : 21 + 0 ≤ _), (by decide : 42 + 0 ≤ _)⟩)
    dsimp only [Pt.U, Pt.locs, Pt.cells, Pt.slots] at X122 l122 y122 z122 st122 hQ122
    subst l122 y122 z122
    obtain ⟨Nc122, e122, rfl⟩ := hQ122
    have N122 := Fr.app N120 Nc122
    refine own_goS st122 ?_
    show own_Goes p e below (T122.setTop (mkF m 181 #[.val (.int x0), .val (.int x1), .val (.int x2), .val (.int x3), .val (.int (2 : Int32)), .val (.ref r_1), .val (.ref r_5), .val (.ref r_9), .val (.ref r_104), .val (.ref rl_104), .val (.ref gwE)] [(.ref r_1), (.ref r_1)])) _
    have f123 := (f102.keep Kc104)
    obtain ⟨cqiv124, kqiv124, qiv124a, qiv124b, qiv124c⟩ := isOf hZ9 e122 f123
    obtain ⟨_, _, ⟨T125, L125, k125, n125⟩, -, X125, ⟨Lc125, hQ125, l125, y125, z125⟩, st125⟩ := X122.virtualBack hx (y := own_m37) (z := own_m37) hown9 (mvT hZ9 (hw _ (List.mem_of_getElem? (i := 128) rfl))) (mvT hZ9 (hw _ (List.mem_of_getElem? (i := 129) rfl))) (notFace_of_selects (args := #[]) (mvT hZ9 (hw _ (List.mem_of_getElem? (i := 131) rfl)))) (mvT hZ9 (hw _ (List.mem_of_getElem? (i := 131) rfl))) (mvT hZ9 (hw _ (List.mem_of_getElem? (i := 130) rfl))) (by decide) (backOf (W := 0) (own_eqSelf l Z a0 hw [] r_1 h104 n0 O105) hZ9 (hw _ (List.mem_of_getElem? (i := 132) rfl)) (hw _ (List.mem_of_getElem? (i := 6) rfl)) (by decide) (by decide)) qiv124a qiv124c (g := (mkF m 181 #[.val (.int x0), .val (.int x1), .val (.int x2), .val (.int x3), .val (.int (2 : Int32)), .val (.ref r_1), .val (.ref r_5), .val (.ref r_9), .val (.ref r_104), .val (.ref rl_104), .val (.ref gwE)] [(.ref r_1), (.ref r_1)])) rfl (by rw [hml]; rfl) (Steps.refl _) (argsL := [(.ref r_1)]) (rest := []) (lenOf own_pd_36 rfl) rfl (by show 2 * 0 + _ ≤ _; exact Nat.le_of_eq rfl) (hb hby at_181) (fun _ _ => ⟨rfl, e122, (by decide : 21 + 0 ≤ _), (by decide : 42 + 0 ≤ _)⟩)
    dsimp only [Pt.U, Pt.locs, Pt.cells, Pt.slots] at X125 l125 y125 z125 st125 hQ125
    subst l125 y125 z125
    obtain ⟨Nc125, e125, rfl⟩ := hQ125
    have N125 := Fr.app N122 Nc125
    refine own_goS st125 ?_
    show own_Goes p e below (T125.setTop (mkF m 184 #[.val (.int x0), .val (.int x1), .val (.int x2), .val (.int x3), .val (.int (2 : Int32)), .val (.ref r_1), .val (.ref r_5), .val (.ref r_9), .val (.ref r_104), .val (.ref rl_104), .val (.ref gwE)] [(.int (1 : Int32))])) _
    refine own_go (fun t_ k_ => XS.ifYes X125.here hx rfl (pc0 := 184) (pc' := 189) rfl (hb hby at_184) rfl ((if0 _ _).trans (feq (show ¬ ((1 : Int32) = (0 : Int32)) from by decide)).2) (by decide) (by decide) k_) ?_
    show own_Goes p e below (T125.setTop (mkF m 189 #[.val (.int x0), .val (.int x1), .val (.int x2), .val (.int x3), .val (.int (2 : Int32)), .val (.ref r_1), .val (.ref r_5), .val (.ref r_9), .val (.ref r_104), .val (.ref rl_104), .val (.ref gwE)] [])) _
    refine own_go (fun t_ k_ => XS.iload X125.here hx rfl (hb hby at_189) rfl k_) ?_
    show own_Goes p e below (T125.setTop (mkF m 191 #[.val (.int x0), .val (.int x1), .val (.int x2), .val (.int x3), .val (.int (2 : Int32)), .val (.ref r_1), .val (.ref r_5), .val (.ref r_9), .val (.ref r_104), .val (.ref rl_104), .val (.ref gwE)] [(.int (2 : Int32))])) _
    refine own_go (fun t_ k_ => XS.iconst X125.here hx rfl (hb hby at_191) k_) ?_
    show own_Goes p e below (T125.setTop (mkF m 192 #[.val (.int x0), .val (.int x1), .val (.int x2), .val (.int x3), .val (.int (2 : Int32)), .val (.ref r_1), .val (.ref r_5), .val (.ref r_9), .val (.ref r_104), .val (.ref rl_104), .val (.ref gwE)] [(.int (2 : Int32)), (.int (2 : Int32))])) _
    refine own_go (fun t_ k_ => XS.icmpNo X125.here hx rfl (hb hby at_192) rfl (flt (show ¬ ((2 : Int32) < (2 : Int32)) from by decide)).1 k_) ?_
    show own_Goes p e below (T125.setTop (mkF m 195 #[.val (.int x0), .val (.int x1), .val (.int x2), .val (.int x3), .val (.int (2 : Int32)), .val (.ref r_1), .val (.ref r_5), .val (.ref r_9), .val (.ref r_104), .val (.ref rl_104), .val (.ref gwE)] [])) _
    refine own_go (fun t_ k_ => XS.aload X125.here hx rfl (hb hby at_195) rfl rfl k_) ?_
    show own_Goes p e below (T125.setTop (mkF m 197 #[.val (.int x0), .val (.int x1), .val (.int x2), .val (.int x3), .val (.int (2 : Int32)), .val (.ref r_1), .val (.ref r_5), .val (.ref r_9), .val (.ref r_104), .val (.ref rl_104), .val (.ref gwE)] [(.ref r_5)])) _
    refine own_go (fun t_ k_ => XS.aload X125.here hx rfl (hb hby at_197) rfl rfl k_) ?_
    show own_Goes p e below (T125.setTop (mkF m 199 #[.val (.int x0), .val (.int x1), .val (.int x2), .val (.int x3), .val (.int (2 : Int32)), .val (.ref r_1), .val (.ref r_5), .val (.ref r_9), .val (.ref r_104), .val (.ref rl_104), .val (.ref gwE)] [(.ref rl_104), (.ref r_5)])) _
    refine own_go (fun t_ k_ => XS.iconst X125.here hx rfl (hb hby at_199) k_) ?_
    show own_Goes p e below (T125.setTop (mkF m 200 #[.val (.int x0), .val (.int x1), .val (.int x2), .val (.int x3), .val (.int (2 : Int32)), .val (.ref r_1), .val (.ref r_5), .val (.ref r_9), .val (.ref r_104), .val (.ref rl_104), .val (.ref gwE)] [(.int (1 : Int32)), (.ref rl_104), (.ref r_5)])) _
    obtain ⟨cqiv126, kqiv126, qiv126a, qiv126b, qiv126c⟩ := isOf hZ9 e125 c104_4
    obtain ⟨_, _, ⟨T127, L127, k127, n127⟩, -, X127, ⟨Lc127, hQ127, l127, y127, z127⟩, st127⟩ := X125.interfaceBack hx (xi := own_m34) (y := own_m35) hown9 (mvT hZ9 (hw _ (List.mem_of_getElem? (i := 120) rfl))) (mvT hZ9 (hw _ (List.mem_of_getElem? (i := 121) rfl))) (mvT hZ9 (hw _ (List.mem_of_getElem? (i := 122) rfl))) (mvT hZ9 (hw _ (List.mem_of_getElem? (i := 156) rfl))) (mvT hZ9 (hw _ (List.mem_of_getElem? (i := 157) rfl))) (mvT hZ9 (hw _ (List.mem_of_getElem? (i := 158) rfl))) (mvT hZ9 (hw _ (List.mem_of_getElem? (i := 159) rfl))) (mvT hZ9 (hw _ (List.mem_of_getElem? (i := 153) rfl))) (by decide) (backOf (W := 1) (own_l12Get1 l Z a0 hw [] rl_104 r_5 h104 n0 O105 gz gwE gwO gwA gk G c104_6 (show ¬ r_5 = gwO from (own_ne (by omega)))) hZ9 (hw _ (List.mem_of_getElem? (i := 160) rfl)) (hw _ (List.mem_of_getElem? (i := 135) rfl)) (by decide) (by decide)) qiv126a qiv126b qiv126c (g := (mkF m 200 #[.val (.int x0), .val (.int x1), .val (.int x2), .val (.int x3), .val (.int (2 : Int32)), .val (.ref r_1), .val (.ref r_5), .val (.ref r_9), .val (.ref r_104), .val (.ref rl_104), .val (.ref gwE)] [(.int (1 : Int32)), (.ref rl_104), (.ref r_5)])) rfl (by rw [hml]; rfl) (Steps.refl _) (argsL := [(.int (1 : Int32))]) (rest := [(.ref r_5)]) (lenOf own_pd_33 rfl) rfl (by show 2 * 0 + _ ≤ _; exact Nat.le_of_eq rfl) (hb hby at_200) (fun _ _ => ⟨rfl, e125, (by decide : 21 + 0 ≤ _), (by decide : 42 + 0 ≤ _)⟩)
    dsimp only [Pt.U, Pt.locs, Pt.cells, Pt.slots] at X127 l127 y127 z127 st127 hQ127
    subst l127 y127 z127
    obtain ⟨Nc127, e127, rfl⟩ := hQ127
    have N127 := Fr.app N125 Nc127
    refine own_goS st127 ?_
    show own_Goes p e below (T127.setTop (mkF m 205 #[.val (.int x0), .val (.int x1), .val (.int x2), .val (.int x3), .val (.int (2 : Int32)), .val (.ref r_1), .val (.ref r_5), .val (.ref r_9), .val (.ref r_104), .val (.ref rl_104), .val (.ref gwE)] [(.ref r_5), (.ref r_5)])) _
    have f128 := (f103.keep Kc104)
    obtain ⟨cqiv129, kqiv129, qiv129a, qiv129b, qiv129c⟩ := isOf hZ9 e127 f128
    obtain ⟨_, _, ⟨T130, L130, k130, n130⟩, -, X130, ⟨Lc130, hQ130, l130, y130, z130⟩, st130⟩ := X127.virtualBack hx (y := own_m37) (z := own_m37) hown9 (mvT hZ9 (hw _ (List.mem_of_getElem? (i := 128) rfl))) (mvT hZ9 (hw _ (List.mem_of_getElem? (i := 129) rfl))) (notFace_of_selects (args := #[]) (mvT hZ9 (hw _ (List.mem_of_getElem? (i := 131) rfl)))) (mvT hZ9 (hw _ (List.mem_of_getElem? (i := 131) rfl))) (mvT hZ9 (hw _ (List.mem_of_getElem? (i := 130) rfl))) (by decide) (backOf (W := 0) (own_eqSelf l Z a0 hw [] r_5 h104 n0 O105) hZ9 (hw _ (List.mem_of_getElem? (i := 132) rfl)) (hw _ (List.mem_of_getElem? (i := 6) rfl)) (by decide) (by decide)) qiv129a qiv129c (g := (mkF m 205 #[.val (.int x0), .val (.int x1), .val (.int x2), .val (.int x3), .val (.int (2 : Int32)), .val (.ref r_1), .val (.ref r_5), .val (.ref r_9), .val (.ref r_104), .val (.ref rl_104), .val (.ref gwE)] [(.ref r_5), (.ref r_5)])) rfl (by rw [hml]; rfl) (Steps.refl _) (argsL := [(.ref r_5)]) (rest := []) (lenOf own_pd_36 rfl) rfl (by show 2 * 0 + _ ≤ _; exact Nat.le_of_eq rfl) (hb hby at_205) (fun _ _ => ⟨rfl, e127, (by decide : 21 + 0 ≤ _), (by decide : 42 + 0 ≤ _)⟩)
    dsimp only [Pt.U, Pt.locs, Pt.cells, Pt.slots] at X130 l130 y130 z130 st130 hQ130
    subst l130 y130 z130
    obtain ⟨Nc130, e130, rfl⟩ := hQ130
    have N130 := Fr.app N127 Nc130
    refine own_goS st130 ?_
    show own_Goes p e below (T130.setTop (mkF m 208 #[.val (.int x0), .val (.int x1), .val (.int x2), .val (.int x3), .val (.int (2 : Int32)), .val (.ref r_1), .val (.ref r_5), .val (.ref r_9), .val (.ref r_104), .val (.ref rl_104), .val (.ref gwE)] [(.int (1 : Int32))])) _
    refine own_go (fun t_ k_ => XS.ifYes X130.here hx rfl (pc0 := 208) (pc' := 213) rfl (hb hby at_208) rfl ((if0 _ _).trans (feq (show ¬ ((1 : Int32) = (0 : Int32)) from by decide)).2) (by decide) (by decide) k_) ?_
    show own_Goes p e below (T130.setTop (mkF m 213 #[.val (.int x0), .val (.int x1), .val (.int x2), .val (.int x3), .val (.int (2 : Int32)), .val (.ref r_1), .val (.ref r_5), .val (.ref r_9), .val (.ref r_104), .val (.ref rl_104), .val (.ref gwE)] [])) _
    refine own_go (fun t_ k_ => XS.iload X130.here hx rfl (hb hby at_213) rfl k_) ?_
    show own_Goes p e below (T130.setTop (mkF m 215 #[.val (.int x0), .val (.int x1), .val (.int x2), .val (.int x3), .val (.int (2 : Int32)), .val (.ref r_1), .val (.ref r_5), .val (.ref r_9), .val (.ref r_104), .val (.ref rl_104), .val (.ref gwE)] [(.int (2 : Int32))])) _
    refine own_go (fun t_ k_ => XS.iconst X130.here hx rfl (hb hby at_215) k_) ?_
    show own_Goes p e below (T130.setTop (mkF m 216 #[.val (.int x0), .val (.int x1), .val (.int x2), .val (.int x3), .val (.int (2 : Int32)), .val (.ref r_1), .val (.ref r_5), .val (.ref r_9), .val (.ref r_104), .val (.ref rl_104), .val (.ref gwE)] [(.int (3 : Int32)), (.int (2 : Int32))])) _
    refine own_go (fun t_ k_ => XS.icmpYes X130.here hx rfl (pc0 := 216) (pc' := 237) rfl (hb hby at_216) rfl (tlt (show ((2 : Int32) < (3 : Int32)) from by decide)).1 (by decide) (by decide) k_) ?_
    show own_Goes p e below (T130.setTop (mkF m 237 #[.val (.int x0), .val (.int x1), .val (.int x2), .val (.int x3), .val (.int (2 : Int32)), .val (.ref r_1), .val (.ref r_5), .val (.ref r_9), .val (.ref r_104), .val (.ref rl_104), .val (.ref gwE)] [])) _
    refine own_go (fun t_ k_ => XS.iconst X130.here hx rfl (hb hby at_237) k_) ?_
    show own_Goes p e below (T130.setTop (mkF m 238 #[.val (.int x0), .val (.int x1), .val (.int x2), .val (.int x3), .val (.int (2 : Int32)), .val (.ref r_1), .val (.ref r_5), .val (.ref r_9), .val (.ref r_104), .val (.ref rl_104), .val (.ref gwE)] [(.int (1 : Int32))])) _
    refine own_endH X130 hS9 (show _ ≤ T130.heap.size by rw [e130]; exact hk109) e130 hh CR108 hZ9 (own_EW hw) (v := (some (.int (1 : Int32)))) (fun h => by rw [hret] at h; cases h) hlk (by decide) (by decide) ?_ (fun fs hr => retOut X130 hx hret rfl (Or.inl ⟨rfl, Or.inr (Or.inl rfl), _, rfl⟩) (hb hby at_238) hr)
    show Q_rm0 Z x0 x1 x2 x3 gz gwE gwO gwA gk h0 n0 _ T130.heap _
    rw [e130]
    exact ⟨N130, trivial, rfl⟩
  · rw [hl16]
    show own_Goes p e below (T9.setTop (mkF m 23 #[.val (.int x0), .val (.int x1), .val (.int x2), .val (.int x3), .val (.int (3 : Int32)), .val (.ref r_1), .val (.ref r_5), .val (.ref r_9), .unset, .unset, .unset] [])) _
    refine own_go (fun t_ k_ => XS.iload X9.here hx rfl (hb hby at_23) rfl k_) ?_
    show own_Goes p e below (T9.setTop (mkF m 25 #[.val (.int x0), .val (.int x1), .val (.int x2), .val (.int x3), .val (.int (3 : Int32)), .val (.ref r_1), .val (.ref r_5), .val (.ref r_9), .unset, .unset, .unset] [(.int (3 : Int32))])) _
    refine own_go (fun t_ k_ => XS.ifYes X9.here hx rfl (pc0 := 25) (pc' := 40) rfl (hb hby at_25) rfl ((if0 _ _).trans (feq (show ¬ ((3 : Int32) = (0 : Int32)) from by decide)).2) (by decide) (by decide) k_) ?_
    show own_Goes p e below (T9.setTop (mkF m 40 #[.val (.int x0), .val (.int x1), .val (.int x2), .val (.int x3), .val (.int (3 : Int32)), .val (.ref r_1), .val (.ref r_5), .val (.ref r_9), .unset, .unset, .unset] [])) _
    refine own_go (fun t_ k_ => XS.iload X9.here hx rfl (hb hby at_40) rfl k_) ?_
    show own_Goes p e below (T9.setTop (mkF m 42 #[.val (.int x0), .val (.int x1), .val (.int x2), .val (.int x3), .val (.int (3 : Int32)), .val (.ref r_1), .val (.ref r_5), .val (.ref r_9), .unset, .unset, .unset] [(.int (3 : Int32))])) _
    refine own_go (fun t_ k_ => XS.iconst X9.here hx rfl (hb hby at_42) k_) ?_
    show own_Goes p e below (T9.setTop (mkF m 43 #[.val (.int x0), .val (.int x1), .val (.int x2), .val (.int x3), .val (.int (3 : Int32)), .val (.ref r_1), .val (.ref r_5), .val (.ref r_9), .unset, .unset, .unset] [(.int (1 : Int32)), (.int (3 : Int32))])) _
    refine own_go (fun t_ k_ => XS.icmpYes X9.here hx rfl (pc0 := 43) (pc' := 63) rfl (hb hby at_43) rfl (feq (show ¬ ((3 : Int32) = (1 : Int32)) from by decide)).2 (by decide) (by decide) k_) ?_
    show own_Goes p e below (T9.setTop (mkF m 63 #[.val (.int x0), .val (.int x1), .val (.int x2), .val (.int x3), .val (.int (3 : Int32)), .val (.ref r_1), .val (.ref r_5), .val (.ref r_9), .unset, .unset, .unset] [])) _
    refine own_go (fun t_ k_ => XS.iload X9.here hx rfl (hb hby at_63) rfl k_) ?_
    show own_Goes p e below (T9.setTop (mkF m 65 #[.val (.int x0), .val (.int x1), .val (.int x2), .val (.int x3), .val (.int (3 : Int32)), .val (.ref r_1), .val (.ref r_5), .val (.ref r_9), .unset, .unset, .unset] [(.int (3 : Int32))])) _
    refine own_go (fun t_ k_ => XS.iconst X9.here hx rfl (hb hby at_65) k_) ?_
    show own_Goes p e below (T9.setTop (mkF m 66 #[.val (.int x0), .val (.int x1), .val (.int x2), .val (.int x3), .val (.int (3 : Int32)), .val (.ref r_1), .val (.ref r_5), .val (.ref r_9), .unset, .unset, .unset] [(.int (2 : Int32)), (.int (3 : Int32))])) _
    refine own_go (fun t_ k_ => XS.icmpYes X9.here hx rfl (pc0 := 66) (pc' := 91) rfl (hb hby at_66) rfl (feq (show ¬ ((3 : Int32) = (2 : Int32)) from by decide)).2 (by decide) (by decide) k_) ?_
    show own_Goes p e below (T9.setTop (mkF m 91 #[.val (.int x0), .val (.int x1), .val (.int x2), .val (.int x3), .val (.int (3 : Int32)), .val (.ref r_1), .val (.ref r_5), .val (.ref r_9), .unset, .unset, .unset] [])) _
    refine own_go (fun t_ k_ => XS.iconst X9.here hx rfl (hb hby at_91) k_) ?_
    show own_Goes p e below (T9.setTop (mkF m 92 #[.val (.int x0), .val (.int x1), .val (.int x2), .val (.int x3), .val (.int (3 : Int32)), .val (.ref r_1), .val (.ref r_5), .val (.ref r_9), .unset, .unset, .unset] [(.int (3 : Int32))])) _
    obtain ⟨T131, h131, k131, X131, e131, E131, A131, Ov131, st131⟩ := newR X9 hx hZ9 hown9 (hw _ (List.mem_of_getElem? (i := 4) rfl)) (hw _ (List.mem_of_getElem? (i := 34) rfl)) e9 (g := (mkF m 92 #[.val (.int x0), .val (.int x1), .val (.int x2), .val (.int x3), .val (.int (3 : Int32)), .val (.ref r_1), .val (.ref r_5), .val (.ref r_9), .unset, .unset, .unset] [(.int (3 : Int32))])) rfl (hb hby at_92) rfl (by decide) (cap := 3) (by decide) (by decide) (by decide) (by decide)
    obtain ⟨b131, g131⟩ : ∃ z, z = h9.size := ⟨_, rfl⟩
    rw [← g131] at A131 st131
    refine own_go st131 ?_
    have O132 := O10.ext E131
    have sz133 : h9.size ≤ h131.size := E131.1
    have cs134 := CHr.ext E131 CR12.1
    have CR135 := CHr.trans CR12 cs134
    have hk136 := Nat.le_trans hk9 E131.1
    have l131 : @LT.lt Nat _ b131 h131.size := A131.lt
    have V131 : Arv Z h131 b131 k131 (.object "java/lang/String") (3 : Int32) [.null, .null, .null] .null := (Arv.new A131 (by decide)).pad (pad_rep [] .null 3)
    show own_Goes p e below (T131.setTop (mkF m 95 #[.val (.int x0), .val (.int x1), .val (.int x2), .val (.int x3), .val (.int (3 : Int32)), .val (.ref r_1), .val (.ref r_5), .val (.ref r_9), .unset, .unset, .unset] [(.ref b131)])) _
    refine own_go (fun t_ k_ => XS.dup X131.here hx rfl (hb hby at_95) rfl rfl k_) ?_
    show own_Goes p e below (T131.setTop (mkF m 96 #[.val (.int x0), .val (.int x1), .val (.int x2), .val (.int x3), .val (.int (3 : Int32)), .val (.ref r_1), .val (.ref r_5), .val (.ref r_9), .unset, .unset, .unset] [(.ref b131), (.ref b131)])) _
    refine own_go (fun t_ k_ => XS.iconst X131.here hx rfl (hb hby at_96) k_) ?_
    show own_Goes p e below (T131.setTop (mkF m 97 #[.val (.int x0), .val (.int x1), .val (.int x2), .val (.int x3), .val (.int (3 : Int32)), .val (.ref r_1), .val (.ref r_5), .val (.ref r_9), .unset, .unset, .unset] [(.int (0 : Int32)), (.ref b131), (.ref b131)])) _
    refine own_go (fun t_ k_ => XS.aload X131.here hx rfl (hb hby at_97) rfl rfl k_) ?_
    show own_Goes p e below (T131.setTop (mkF m 99 #[.val (.int x0), .val (.int x1), .val (.int x2), .val (.int x3), .val (.int (3 : Int32)), .val (.ref r_1), .val (.ref r_5), .val (.ref r_9), .unset, .unset, .unset] [(.ref r_1), (.int (0 : Int32)), (.ref b131), (.ref b131)])) _
    obtain ⟨clu137, Aru137, qu137, Szu137, Ngu137, Hsu137, Gsu137⟩ := id V131
    have inu137 : ¬ ((0 : Int32) < 0 ∨ clu137.slots.size ≤ ((0 : Int32)).toNatClampNeg) := inb_of Szu137 ⟨by decide, by decide⟩
    have f138 := (((c1_0.keep Kc5).keep Kc9).ext E131)
    obtain ⟨T139, h139, X139, e139, W139, st139⟩ := stR X131 hx hZ9 e131 Aru137 (j := (0 : Int32)) inu137 rfl (Sto.ofV Aru137 qu137 Ov131 (Ins.self f138)) (g := (mkF m 99 #[.val (.int x0), .val (.int x1), .val (.int x2), .val (.int x3), .val (.int (3 : Int32)), .val (.ref r_1), .val (.ref r_5), .val (.ref r_9), .unset, .unset, .unset] [(.ref r_1), (.int (0 : Int32)), (.ref b131), (.ref b131)])) rfl rfl (hb hby at_99)
    refine own_go st139 ?_
    have V139 := Arv.set Aru137 qu137 Szu137 Ngu137 Hsu137 Gsu137 rfl W139 0 rfl (Nat.le_of_ble_eq_true rfl)
    have O140 := O132.wr W139 (show n0 ≤ b131 by omega)
    have sz141 : h139.size = h131.size := Wr.size W139
    have cs142 := CHr.wr W139 (Safe.arv hZ9.alike V131 (by decide)) CR135.1
    have CR143 := CHr.trans CR135 cs142
    have hk144 := Nat.le_trans hk136 (Nat.le_of_eq (Wr.size W139).symm)
    have N139 := Fr.snoc X139 N9 (show n0 ≤ b131 by omega)
    have V139 : Arv Z h139 b131 k131 (.object "java/lang/String") (3 : Int32) [(.ref r_1), .null, .null] .null := V139
    show own_Goes p e below (T139.setTop (mkF m 100 #[.val (.int x0), .val (.int x1), .val (.int x2), .val (.int x3), .val (.int (3 : Int32)), .val (.ref r_1), .val (.ref r_5), .val (.ref r_9), .unset, .unset, .unset] [(.ref b131)])) _
    refine own_go (fun t_ k_ => XS.dup X139.here hx rfl (hb hby at_100) rfl rfl k_) ?_
    show own_Goes p e below (T139.setTop (mkF m 101 #[.val (.int x0), .val (.int x1), .val (.int x2), .val (.int x3), .val (.int (3 : Int32)), .val (.ref r_1), .val (.ref r_5), .val (.ref r_9), .unset, .unset, .unset] [(.ref b131), (.ref b131)])) _
    refine own_go (fun t_ k_ => XS.iconst X139.here hx rfl (hb hby at_101) k_) ?_
    show own_Goes p e below (T139.setTop (mkF m 102 #[.val (.int x0), .val (.int x1), .val (.int x2), .val (.int x3), .val (.int (3 : Int32)), .val (.ref r_1), .val (.ref r_5), .val (.ref r_9), .unset, .unset, .unset] [(.int (1 : Int32)), (.ref b131), (.ref b131)])) _
    refine own_go (fun t_ k_ => XS.aload X139.here hx rfl (hb hby at_102) rfl rfl k_) ?_
    show own_Goes p e below (T139.setTop (mkF m 104 #[.val (.int x0), .val (.int x1), .val (.int x2), .val (.int x3), .val (.int (3 : Int32)), .val (.ref r_1), .val (.ref r_5), .val (.ref r_9), .unset, .unset, .unset] [(.ref r_5), (.int (1 : Int32)), (.ref b131), (.ref b131)])) _
    obtain ⟨clu145, Aru145, qu145, Szu145, Ngu145, Hsu145, Gsu145⟩ := id V139
    have inu145 : ¬ ((1 : Int32) < 0 ∨ clu145.slots.size ≤ ((1 : Int32)).toNatClampNeg) := inb_of Szu145 ⟨by decide, by decide⟩
    have f146 := (((c5_0.keep Kc9).ext E131).wr W139)
    obtain ⟨T147, h147, X147, e147, W147, st147⟩ := stR X139 hx hZ9 e139 Aru145 (j := (1 : Int32)) inu145 rfl (Sto.ofV Aru145 qu145 Ov131 (Ins.self f146)) (g := (mkF m 104 #[.val (.int x0), .val (.int x1), .val (.int x2), .val (.int x3), .val (.int (3 : Int32)), .val (.ref r_1), .val (.ref r_5), .val (.ref r_9), .unset, .unset, .unset] [(.ref r_5), (.int (1 : Int32)), (.ref b131), (.ref b131)])) rfl rfl (hb hby at_104)
    refine own_go st147 ?_
    have V147 := Arv.set Aru145 qu145 Szu145 Ngu145 Hsu145 Gsu145 rfl W147 1 rfl (Nat.le_of_ble_eq_true rfl)
    have O148 := O140.wr W147 (show n0 ≤ b131 by omega)
    have sz149 : h147.size = h139.size := Wr.size W147
    have cs150 := CHr.wr W147 (Safe.arv hZ9.alike V139 (by decide)) CR143.1
    have CR151 := CHr.trans CR143 cs150
    have hk152 := Nat.le_trans hk144 (Nat.le_of_eq (Wr.size W147).symm)
    have N147 := Fr.snoc X147 N139 (show n0 ≤ b131 by omega)
    have V147 : Arv Z h147 b131 k131 (.object "java/lang/String") (3 : Int32) [(.ref r_1), (.ref r_5), .null] .null := V147
    show own_Goes p e below (T147.setTop (mkF m 105 #[.val (.int x0), .val (.int x1), .val (.int x2), .val (.int x3), .val (.int (3 : Int32)), .val (.ref r_1), .val (.ref r_5), .val (.ref r_9), .unset, .unset, .unset] [(.ref b131)])) _
    refine own_go (fun t_ k_ => XS.dup X147.here hx rfl (hb hby at_105) rfl rfl k_) ?_
    show own_Goes p e below (T147.setTop (mkF m 106 #[.val (.int x0), .val (.int x1), .val (.int x2), .val (.int x3), .val (.int (3 : Int32)), .val (.ref r_1), .val (.ref r_5), .val (.ref r_9), .unset, .unset, .unset] [(.ref b131), (.ref b131)])) _
    refine own_go (fun t_ k_ => XS.iconst X147.here hx rfl (hb hby at_106) k_) ?_
    show own_Goes p e below (T147.setTop (mkF m 107 #[.val (.int x0), .val (.int x1), .val (.int x2), .val (.int x3), .val (.int (3 : Int32)), .val (.ref r_1), .val (.ref r_5), .val (.ref r_9), .unset, .unset, .unset] [(.int (2 : Int32)), (.ref b131), (.ref b131)])) _
    refine own_go (fun t_ k_ => XS.aload X147.here hx rfl (hb hby at_107) rfl rfl k_) ?_
    show own_Goes p e below (T147.setTop (mkF m 109 #[.val (.int x0), .val (.int x1), .val (.int x2), .val (.int x3), .val (.int (3 : Int32)), .val (.ref r_1), .val (.ref r_5), .val (.ref r_9), .unset, .unset, .unset] [(.ref r_9), (.int (2 : Int32)), (.ref b131), (.ref b131)])) _
    obtain ⟨clu153, Aru153, qu153, Szu153, Ngu153, Hsu153, Gsu153⟩ := id V147
    have inu153 : ¬ ((2 : Int32) < 0 ∨ clu153.slots.size ≤ ((2 : Int32)).toNatClampNeg) := inb_of Szu153 ⟨by decide, by decide⟩
    have f154 := (((c9_0.ext E131).wr W139).wr W147)
    obtain ⟨T155, h155, X155, e155, W155, st155⟩ := stR X147 hx hZ9 e147 Aru153 (j := (2 : Int32)) inu153 rfl (Sto.ofV Aru153 qu153 Ov131 (Ins.self f154)) (g := (mkF m 109 #[.val (.int x0), .val (.int x1), .val (.int x2), .val (.int x3), .val (.int (3 : Int32)), .val (.ref r_1), .val (.ref r_5), .val (.ref r_9), .unset, .unset, .unset] [(.ref r_9), (.int (2 : Int32)), (.ref b131), (.ref b131)])) rfl rfl (hb hby at_109)
    refine own_go st155 ?_
    have V155 := Arv.set Aru153 qu153 Szu153 Ngu153 Hsu153 Gsu153 rfl W155 2 rfl (Nat.le_of_ble_eq_true rfl)
    have O156 := O148.wr W155 (show n0 ≤ b131 by omega)
    have sz157 : h155.size = h147.size := Wr.size W155
    have cs158 := CHr.wr W155 (Safe.arv hZ9.alike V147 (by decide)) CR151.1
    have CR159 := CHr.trans CR151 cs158
    have hk160 := Nat.le_trans hk152 (Nat.le_of_eq (Wr.size W155).symm)
    have N155 := Fr.snoc X155 N147 (show n0 ≤ b131 by omega)
    have V155 : Arv Z h155 b131 k131 (.object "java/lang/String") (3 : Int32) [(.ref r_1), (.ref r_5), (.ref r_9)] .null := V155
    show own_Goes p e below (T155.setTop (mkF m 110 #[.val (.int x0), .val (.int x1), .val (.int x2), .val (.int x3), .val (.int (3 : Int32)), .val (.ref r_1), .val (.ref r_5), .val (.ref r_9), .unset, .unset, .unset] [(.ref b131)])) _
    have f161 := (((f138.wr W139).wr W147).wr W155)
    have f162 := ((f146.wr W147).wr W155)
    have f163 := (f154.wr W155)
    obtain ⟨_, _, ⟨T164, L164, k164, n164⟩, -, X164, ⟨Lc164, hQ164, l164, y164, z164⟩, st164⟩ := Jvm.LawKit.callS X155 hx (y := own_m26) hown9 (mvT hZ9 (hw _ (List.mem_of_getElem? (i := 35) rfl))) (mvT hZ9 (hw _ (List.mem_of_getElem? (i := 36) rfl))) (mvT hZ9 (hw _ (List.mem_of_getElem? (i := 37) rfl))) (mvT hZ9 (hw _ (List.mem_of_getElem? (i := 38) rfl))) (by decide) (backOf (W := 0) (own_of3 l Z a0 hw [] b131 k131 r_1 r_5 r_9 h155 n0 O156 gz gwE gwO gwA gk G V155 f161 f162 f163) hZ9 (hw _ (List.mem_of_getElem? (i := 38) rfl)) (hw _ (List.mem_of_getElem? (i := 37) rfl)) (by decide) (by decide)) (g := (mkF m 110 #[.val (.int x0), .val (.int x1), .val (.int x2), .val (.int x3), .val (.int (3 : Int32)), .val (.ref r_1), .val (.ref r_5), .val (.ref r_9), .unset, .unset, .unset] [(.ref b131)])) rfl (by rw [hml]; rfl) (argsL := [(.ref b131)]) (rest := []) (lenOf own_pd_25 rfl) rfl (by show 2 * 0 + _ ≤ _; exact Nat.le_of_eq rfl) (hb hby at_110) (fun _ _ => ⟨rfl, e155, (by decide : 19 + 3 ≤ _), (by decide : 39 + 7 ≤ _)⟩)
    dsimp only [Pt.U, Pt.locs, Pt.cells, Pt.slots] at X164 l164 y164 z164 st164 hQ164
    subst l164 y164 z164
    obtain ⟨h164, e164⟩ : ∃ z, T164.heap = z := ⟨_, rfl⟩
    rw [e164] at hQ164
    obtain ⟨Nc164, Kc164, r_164, rl_164, re_164, rk_164, rfl, c164_0, c164_1, c164_2, c164_3, c164_4, c164_5, c164_6⟩ := hQ164
    have N164 := Fr.app N155 Nc164
    have O165 := O156.keep Kc164 all0
    have sz166 : h155.size ≤ h164.size := Kc164.1
    have cs167 := CHr.keep Kc164 sf0 CR159.1
    have CR168 := CHr.trans CR159 cs167
    have hk169 := Nat.le_trans hk160 Kc164.1
    have ltc164_0 : @LT.lt Nat _ r_164 h164.size := c164_0.lt
    have ltc164_4 : @LT.lt Nat _ rl_164 h164.size := c164_4.lt
    have ltc164_6 : @LT.lt Nat _ re_164 h164.size := c164_6.lt
    refine own_go st164 ?_
    show own_Goes p e below (T164.setTop (mkF m 113 #[.val (.int x0), .val (.int x1), .val (.int x2), .val (.int x3), .val (.int (3 : Int32)), .val (.ref r_1), .val (.ref r_5), .val (.ref r_9), .unset, .unset, .unset] [(.ref r_164)])) _
    refine own_go (fun t_ k_ => XS.astore X164.here hx rfl (hb hby at_113) rfl rfl (l' := #[.val (.int x0), .val (.int x1), .val (.int x2), .val (.int x3), .val (.int (3 : Int32)), .val (.ref r_1), .val (.ref r_5), .val (.ref r_9), .val (.ref r_164), .unset, .unset]) rfl k_) ?_
    show own_Goes p e below (T164.setTop (mkF m 115 #[.val (.int x0), .val (.int x1), .val (.int x2), .val (.int x3), .val (.int (3 : Int32)), .val (.ref r_1), .val (.ref r_5), .val (.ref r_9), .val (.ref r_164), .unset, .unset] [])) _
    refine own_go (fun t_ k_ => XS.aload X164.here hx rfl (hb hby at_115) rfl rfl k_) ?_
    show own_Goes p e below (T164.setTop (mkF m 117 #[.val (.int x0), .val (.int x1), .val (.int x2), .val (.int x3), .val (.int (3 : Int32)), .val (.ref r_1), .val (.ref r_5), .val (.ref r_9), .val (.ref r_164), .unset, .unset] [(.ref r_164)])) _
    obtain ⟨cqiv170, kqiv170, qiv170a, qiv170b, qiv170c⟩ := isOf hZ9 e164 c164_0
    obtain ⟨_, _, ⟨T171, L171, k171, n171⟩, -, X171, ⟨Lc171, hQ171, l171, y171, z171⟩, st171⟩ := X164.virtualBack hx (y := own_m27) (z := own_m27) hown9 (mvT hZ9 (hw _ (List.mem_of_getElem? (i := 58) rfl))) (mvT hZ9 (hw _ (List.mem_of_getElem? (i := 59) rfl))) (notFace_of_selects (args := #[]) (mvT hZ9 (hw _ (List.mem_of_getElem? (i := 61) rfl)))) (mvT hZ9 (hw _ (List.mem_of_getElem? (i := 61) rfl))) (mvT hZ9 (hw _ (List.mem_of_getElem? (i := 60) rfl))) (by decide) (backOf (W := 0) (own_stm l Z a0 hw [] r_164 rl_164 h164 n0 O165 c164_2) hZ9 (hw _ (List.mem_of_getElem? (i := 62) rfl)) (hw _ (List.mem_of_getElem? (i := 37) rfl)) (by decide) (by decide)) qiv170a qiv170c (g := (mkF m 117 #[.val (.int x0), .val (.int x1), .val (.int x2), .val (.int x3), .val (.int (3 : Int32)), .val (.ref r_1), .val (.ref r_5), .val (.ref r_9), .val (.ref r_164), .unset, .unset] [(.ref r_164)])) rfl (by rw [hml]; rfl) (Steps.refl _) (argsL := []) (rest := []) (lenOf own_pd_18 rfl) rfl (by show 2 * 0 + _ ≤ _; exact Nat.le_of_eq rfl) (hb hby at_117) (fun _ _ => ⟨rfl, e164, (by decide : 22 + 0 ≤ _), (by decide : 46 + 0 ≤ _)⟩)
    dsimp only [Pt.U, Pt.locs, Pt.cells, Pt.slots] at X171 l171 y171 z171 st171 hQ171
    subst l171 y171 z171
    obtain ⟨Nc171, e171, rfl⟩ := hQ171
    have N171 := Fr.app N164 Nc171
    refine own_goS st171 ?_
    show own_Goes p e below (T171.setTop (mkF m 120 #[.val (.int x0), .val (.int x1), .val (.int x2), .val (.int x3), .val (.int (3 : Int32)), .val (.ref r_1), .val (.ref r_5), .val (.ref r_9), .val (.ref r_164), .unset, .unset] [(.ref rl_164)])) _
    refine own_go (fun t_ k_ => XS.astore X171.here hx rfl (hb hby at_120) rfl rfl (l' := #[.val (.int x0), .val (.int x1), .val (.int x2), .val (.int x3), .val (.int (3 : Int32)), .val (.ref r_1), .val (.ref r_5), .val (.ref r_9), .val (.ref r_164), .val (.ref rl_164), .unset]) rfl k_) ?_
    show own_Goes p e below (T171.setTop (mkF m 122 #[.val (.int x0), .val (.int x1), .val (.int x2), .val (.int x3), .val (.int (3 : Int32)), .val (.ref r_1), .val (.ref r_5), .val (.ref r_9), .val (.ref r_164), .val (.ref rl_164), .unset] [])) _
    refine own_go (fun t_ k_ => XS.aload X171.here hx rfl (hb hby at_122) rfl rfl k_) ?_
    show own_Goes p e below (T171.setTop (mkF m 124 #[.val (.int x0), .val (.int x1), .val (.int x2), .val (.int x3), .val (.int (3 : Int32)), .val (.ref r_1), .val (.ref r_5), .val (.ref r_9), .val (.ref r_164), .val (.ref rl_164), .unset] [(.ref r_164)])) _
    obtain ⟨cqiv172, kqiv172, qiv172a, qiv172b, qiv172c⟩ := isOf hZ9 e171 c164_0
    obtain ⟨_, _, ⟨T173, L173, k173, n173⟩, -, X173, ⟨Lc173, hQ173, l173, y173, z173⟩, st173⟩ := X171.virtualBack hx (y := own_m28) (z := own_m28) hown9 (mvT hZ9 (hw _ (List.mem_of_getElem? (i := 63) rfl))) (mvT hZ9 (hw _ (List.mem_of_getElem? (i := 64) rfl))) (notFace_of_selects (args := #[]) (mvT hZ9 (hw _ (List.mem_of_getElem? (i := 66) rfl)))) (mvT hZ9 (hw _ (List.mem_of_getElem? (i := 66) rfl))) (mvT hZ9 (hw _ (List.mem_of_getElem? (i := 65) rfl))) (by decide) (backOf (W := 0) (own_rew l Z a0 hw [] r_164 gwE h164 n0 O165 c164_1) hZ9 (hw _ (List.mem_of_getElem? (i := 67) rfl)) (hw _ (List.mem_of_getElem? (i := 37) rfl)) (by decide) (by decide)) qiv172a qiv172c (g := (mkF m 124 #[.val (.int x0), .val (.int x1), .val (.int x2), .val (.int x3), .val (.int (3 : Int32)), .val (.ref r_1), .val (.ref r_5), .val (.ref r_9), .val (.ref r_164), .val (.ref rl_164), .unset] [(.ref r_164)])) rfl (by rw [hml]; rfl) (Steps.refl _) (argsL := []) (rest := []) (lenOf own_pd_18 rfl) rfl (by show 2 * 0 + _ ≤ _; exact Nat.le_of_eq rfl) (hb hby at_124) (fun _ _ => ⟨rfl, e171, (by decide : 22 + 0 ≤ _), (by decide : 46 + 0 ≤ _)⟩)
    dsimp only [Pt.U, Pt.locs, Pt.cells, Pt.slots] at X173 l173 y173 z173 st173 hQ173
    subst l173 y173 z173
    obtain ⟨Nc173, e173, rfl⟩ := hQ173
    have N173 := Fr.app N171 Nc173
    refine own_goS st173 ?_
    show own_Goes p e below (T173.setTop (mkF m 127 #[.val (.int x0), .val (.int x1), .val (.int x2), .val (.int x3), .val (.int (3 : Int32)), .val (.ref r_1), .val (.ref r_5), .val (.ref r_9), .val (.ref r_164), .val (.ref rl_164), .unset] [(.ref gwE)])) _
    refine own_go (fun t_ k_ => XS.astore X173.here hx rfl (hb hby at_127) rfl rfl (l' := #[.val (.int x0), .val (.int x1), .val (.int x2), .val (.int x3), .val (.int (3 : Int32)), .val (.ref r_1), .val (.ref r_5), .val (.ref r_9), .val (.ref r_164), .val (.ref rl_164), .val (.ref gwE)]) rfl k_) ?_
    show own_Goes p e below (T173.setTop (mkF m 129 #[.val (.int x0), .val (.int x1), .val (.int x2), .val (.int x3), .val (.int (3 : Int32)), .val (.ref r_1), .val (.ref r_5), .val (.ref r_9), .val (.ref r_164), .val (.ref rl_164), .val (.ref gwE)] [])) _
    refine own_go (fun t_ k_ => XS.aload X173.here hx rfl (hb hby at_129) rfl rfl k_) ?_
    show own_Goes p e below (T173.setTop (mkF m 131 #[.val (.int x0), .val (.int x1), .val (.int x2), .val (.int x3), .val (.int (3 : Int32)), .val (.ref r_1), .val (.ref r_5), .val (.ref r_9), .val (.ref r_164), .val (.ref rl_164), .val (.ref gwE)] [(.ref gwE)])) _
    refine own_go (fun t_ k_ => XS.ifnullNo X173.here hx rfl (hb hby at_131) rfl k_) ?_
    show own_Goes p e below (T173.setTop (mkF m 134 #[.val (.int x0), .val (.int x1), .val (.int x2), .val (.int x3), .val (.int (3 : Int32)), .val (.ref r_1), .val (.ref r_5), .val (.ref r_9), .val (.ref r_164), .val (.ref rl_164), .val (.ref gwE)] [])) _
    refine own_go (fun t_ k_ => XS.aload X173.here hx rfl (hb hby at_134) rfl rfl k_) ?_
    show own_Goes p e below (T173.setTop (mkF m 136 #[.val (.int x0), .val (.int x1), .val (.int x2), .val (.int x3), .val (.int (3 : Int32)), .val (.ref r_1), .val (.ref r_5), .val (.ref r_9), .val (.ref r_164), .val (.ref rl_164), .val (.ref gwE)] [(.ref gwE)])) _
    have q174 := G6.ext O165.2
    have q175 := G7.ext O165.2
    have q176 := G3.ext O165.2
    obtain ⟨cqiv177, kqiv177, qiv177a, qiv177b, qiv177c⟩ := isOf hZ9 e173 q176
    obtain ⟨_, _, ⟨T178, L178, k178, n178⟩, -, X178, ⟨Lc178, hQ178, l178, y178, z178⟩, st178⟩ := X173.interfaceBack hx (xi := own_m30) (y := own_m31) hown9 (mvT hZ9 (hw _ (List.mem_of_getElem? (i := 68) rfl))) (mvT hZ9 (hw _ (List.mem_of_getElem? (i := 69) rfl))) (mvT hZ9 (hw _ (List.mem_of_getElem? (i := 70) rfl))) (mvT hZ9 (hw _ (List.mem_of_getElem? (i := 71) rfl))) (mvT hZ9 (hw _ (List.mem_of_getElem? (i := 72) rfl))) (mvT hZ9 (hw _ (List.mem_of_getElem? (i := 73) rfl))) (mvT hZ9 (hw _ (List.mem_of_getElem? (i := 74) rfl))) (mvT hZ9 (hw _ (List.mem_of_getElem? (i := 75) rfl))) (by decide) (backOf (W := 0) (own_lnSize0 l Z a0 hw [] gwE gwA gk h164 n0 O165 q174 q175) hZ9 (hw _ (List.mem_of_getElem? (i := 77) rfl)) (hw _ (List.mem_of_getElem? (i := 76) rfl)) (by decide) (by decide)) qiv177a qiv177b qiv177c (g := (mkF m 136 #[.val (.int x0), .val (.int x1), .val (.int x2), .val (.int x3), .val (.int (3 : Int32)), .val (.ref r_1), .val (.ref r_5), .val (.ref r_9), .val (.ref r_164), .val (.ref rl_164), .val (.ref gwE)] [(.ref gwE)])) rfl (by rw [hml]; rfl) (Steps.refl _) (argsL := []) (rest := []) (lenOf own_pd_29 rfl) rfl (by show 2 * 0 + _ ≤ _; exact Nat.le_of_eq rfl) (hb hby at_136) (fun _ _ => ⟨rfl, e173, (by decide : 22 + 0 ≤ _), (by decide : 46 + 0 ≤ _)⟩)
    dsimp only [Pt.U, Pt.locs, Pt.cells, Pt.slots] at X178 l178 y178 z178 st178 hQ178
    subst l178 y178 z178
    obtain ⟨Nc178, e178, rfl⟩ := hQ178
    have N178 := Fr.app N173 Nc178
    refine own_goS st178 ?_
    show own_Goes p e below (T178.setTop (mkF m 141 #[.val (.int x0), .val (.int x1), .val (.int x2), .val (.int x3), .val (.int (3 : Int32)), .val (.ref r_1), .val (.ref r_5), .val (.ref r_9), .val (.ref r_164), .val (.ref rl_164), .val (.ref gwE)] [(.int (0 : Int32))])) _
    refine own_go (fun t_ k_ => XS.ifYes X178.here hx rfl (pc0 := 141) (pc' := 146) rfl (hb hby at_141) rfl ((if0 _ _).trans (teq (show ((0 : Int32) = (0 : Int32)) from by decide)).1) (by decide) (by decide) k_) ?_
    show own_Goes p e below (T178.setTop (mkF m 146 #[.val (.int x0), .val (.int x1), .val (.int x2), .val (.int x3), .val (.int (3 : Int32)), .val (.ref r_1), .val (.ref r_5), .val (.ref r_9), .val (.ref r_164), .val (.ref rl_164), .val (.ref gwE)] [])) _
    refine own_go (fun t_ k_ => XS.aload X178.here hx rfl (hb hby at_146) rfl rfl k_) ?_
    show own_Goes p e below (T178.setTop (mkF m 148 #[.val (.int x0), .val (.int x1), .val (.int x2), .val (.int x3), .val (.int (3 : Int32)), .val (.ref r_1), .val (.ref r_5), .val (.ref r_9), .val (.ref r_164), .val (.ref rl_164), .val (.ref gwE)] [(.ref rl_164)])) _
    refine own_go (fun t_ k_ => XS.ifnullNo X178.here hx rfl (hb hby at_148) rfl k_) ?_
    show own_Goes p e below (T178.setTop (mkF m 151 #[.val (.int x0), .val (.int x1), .val (.int x2), .val (.int x3), .val (.int (3 : Int32)), .val (.ref r_1), .val (.ref r_5), .val (.ref r_9), .val (.ref r_164), .val (.ref rl_164), .val (.ref gwE)] [])) _
    refine own_go (fun t_ k_ => XS.aload X178.here hx rfl (hb hby at_151) rfl rfl k_) ?_
    show own_Goes p e below (T178.setTop (mkF m 153 #[.val (.int x0), .val (.int x1), .val (.int x2), .val (.int x3), .val (.int (3 : Int32)), .val (.ref r_1), .val (.ref r_5), .val (.ref r_9), .val (.ref r_164), .val (.ref rl_164), .val (.ref gwE)] [(.ref rl_164)])) _
    obtain ⟨cqiv179, kqiv179, qiv179a, qiv179b, qiv179c⟩ := isOf hZ9 e178 c164_4
    obtain ⟨_, _, ⟨T180, L180, k180, n180⟩, -, X180, ⟨Lc180, hQ180, l180, y180, z180⟩, st180⟩ := X178.interfaceBack hx (xi := own_m30) (y := own_m31) hown9 (mvT hZ9 (hw _ (List.mem_of_getElem? (i := 68) rfl))) (mvT hZ9 (hw _ (List.mem_of_getElem? (i := 69) rfl))) (mvT hZ9 (hw _ (List.mem_of_getElem? (i := 70) rfl))) (mvT hZ9 (hw _ (List.mem_of_getElem? (i := 71) rfl))) (mvT hZ9 (hw _ (List.mem_of_getElem? (i := 72) rfl))) (mvT hZ9 (hw _ (List.mem_of_getElem? (i := 73) rfl))) (mvT hZ9 (hw _ (List.mem_of_getElem? (i := 74) rfl))) (mvT hZ9 (hw _ (List.mem_of_getElem? (i := 75) rfl))) (by decide) (backOf (W := 0) (own_lnSize3 l Z a0 hw [] rl_164 re_164 rk_164 r_1 r_5 r_9 h164 n0 O165 c164_5 c164_6) hZ9 (hw _ (List.mem_of_getElem? (i := 77) rfl)) (hw _ (List.mem_of_getElem? (i := 76) rfl)) (by decide) (by decide)) qiv179a qiv179b qiv179c (g := (mkF m 153 #[.val (.int x0), .val (.int x1), .val (.int x2), .val (.int x3), .val (.int (3 : Int32)), .val (.ref r_1), .val (.ref r_5), .val (.ref r_9), .val (.ref r_164), .val (.ref rl_164), .val (.ref gwE)] [(.ref rl_164)])) rfl (by rw [hml]; rfl) (Steps.refl _) (argsL := []) (rest := []) (lenOf own_pd_29 rfl) rfl (by show 2 * 0 + _ ≤ _; exact Nat.le_of_eq rfl) (hb hby at_153) (fun _ _ => ⟨rfl, e178, (by decide : 22 + 0 ≤ _), (by decide : 46 + 0 ≤ _)⟩)
    dsimp only [Pt.U, Pt.locs, Pt.cells, Pt.slots] at X180 l180 y180 z180 st180 hQ180
    subst l180 y180 z180
    obtain ⟨Nc180, e180, rfl⟩ := hQ180
    have N180 := Fr.app N178 Nc180
    refine own_goS st180 ?_
    show own_Goes p e below (T180.setTop (mkF m 158 #[.val (.int x0), .val (.int x1), .val (.int x2), .val (.int x3), .val (.int (3 : Int32)), .val (.ref r_1), .val (.ref r_5), .val (.ref r_9), .val (.ref r_164), .val (.ref rl_164), .val (.ref gwE)] [(.int (3 : Int32))])) _
    refine own_go (fun t_ k_ => XS.iload X180.here hx rfl (hb hby at_158) rfl k_) ?_
    show own_Goes p e below (T180.setTop (mkF m 160 #[.val (.int x0), .val (.int x1), .val (.int x2), .val (.int x3), .val (.int (3 : Int32)), .val (.ref r_1), .val (.ref r_5), .val (.ref r_9), .val (.ref r_164), .val (.ref rl_164), .val (.ref gwE)] [(.int (3 : Int32)), (.int (3 : Int32))])) _
    refine own_go (fun t_ k_ => XS.icmpYes X180.here hx rfl (pc0 := 160) (pc' := 165) rfl (hb hby at_160) rfl (teq (show ((3 : Int32) = (3 : Int32)) from by decide)).1 (by decide) (by decide) k_) ?_
    show own_Goes p e below (T180.setTop (mkF m 165 #[.val (.int x0), .val (.int x1), .val (.int x2), .val (.int x3), .val (.int (3 : Int32)), .val (.ref r_1), .val (.ref r_5), .val (.ref r_9), .val (.ref r_164), .val (.ref rl_164), .val (.ref gwE)] [])) _
    refine own_go (fun t_ k_ => XS.iload X180.here hx rfl (hb hby at_165) rfl k_) ?_
    show own_Goes p e below (T180.setTop (mkF m 167 #[.val (.int x0), .val (.int x1), .val (.int x2), .val (.int x3), .val (.int (3 : Int32)), .val (.ref r_1), .val (.ref r_5), .val (.ref r_9), .val (.ref r_164), .val (.ref rl_164), .val (.ref gwE)] [(.int (3 : Int32))])) _
    refine own_go (fun t_ k_ => XS.iconst X180.here hx rfl (hb hby at_167) k_) ?_
    show own_Goes p e below (T180.setTop (mkF m 168 #[.val (.int x0), .val (.int x1), .val (.int x2), .val (.int x3), .val (.int (3 : Int32)), .val (.ref r_1), .val (.ref r_5), .val (.ref r_9), .val (.ref r_164), .val (.ref rl_164), .val (.ref gwE)] [(.int (1 : Int32)), (.int (3 : Int32))])) _
    refine own_go (fun t_ k_ => XS.icmpNo X180.here hx rfl (hb hby at_168) rfl (flt (show ¬ ((3 : Int32) < (1 : Int32)) from by decide)).1 k_) ?_
    show own_Goes p e below (T180.setTop (mkF m 171 #[.val (.int x0), .val (.int x1), .val (.int x2), .val (.int x3), .val (.int (3 : Int32)), .val (.ref r_1), .val (.ref r_5), .val (.ref r_9), .val (.ref r_164), .val (.ref rl_164), .val (.ref gwE)] [])) _
    refine own_go (fun t_ k_ => XS.aload X180.here hx rfl (hb hby at_171) rfl rfl k_) ?_
    show own_Goes p e below (T180.setTop (mkF m 173 #[.val (.int x0), .val (.int x1), .val (.int x2), .val (.int x3), .val (.int (3 : Int32)), .val (.ref r_1), .val (.ref r_5), .val (.ref r_9), .val (.ref r_164), .val (.ref rl_164), .val (.ref gwE)] [(.ref r_1)])) _
    refine own_go (fun t_ k_ => XS.aload X180.here hx rfl (hb hby at_173) rfl rfl k_) ?_
    show own_Goes p e below (T180.setTop (mkF m 175 #[.val (.int x0), .val (.int x1), .val (.int x2), .val (.int x3), .val (.int (3 : Int32)), .val (.ref r_1), .val (.ref r_5), .val (.ref r_9), .val (.ref r_164), .val (.ref rl_164), .val (.ref gwE)] [(.ref rl_164), (.ref r_1)])) _
    refine own_go (fun t_ k_ => XS.iconst X180.here hx rfl (hb hby at_175) k_) ?_
    show own_Goes p e below (T180.setTop (mkF m 176 #[.val (.int x0), .val (.int x1), .val (.int x2), .val (.int x3), .val (.int (3 : Int32)), .val (.ref r_1), .val (.ref r_5), .val (.ref r_9), .val (.ref r_164), .val (.ref rl_164), .val (.ref gwE)] [(.int (0 : Int32)), (.ref rl_164), (.ref r_1)])) _
    obtain ⟨cqiv181, kqiv181, qiv181a, qiv181b, qiv181c⟩ := isOf hZ9 e180 c164_4
    obtain ⟨_, _, ⟨T182, L182, k182, n182⟩, -, X182, ⟨Lc182, hQ182, l182, y182, z182⟩, st182⟩ := X180.interfaceBack hx (xi := own_m34) (y := own_m38) hown9 (mvT hZ9 (hw _ (List.mem_of_getElem? (i := 120) rfl))) (mvT hZ9 (hw _ (List.mem_of_getElem? (i := 121) rfl))) (mvT hZ9 (hw _ (List.mem_of_getElem? (i := 122) rfl))) (mvT hZ9 (hw _ (List.mem_of_getElem? (i := 123) rfl))) (mvT hZ9 (hw _ (List.mem_of_getElem? (i := 124) rfl))) (mvT hZ9 (hw _ (List.mem_of_getElem? (i := 125) rfl))) (mvT hZ9 (hw _ (List.mem_of_getElem? (i := 126) rfl))) (mvT hZ9 (hw _ (List.mem_of_getElem? (i := 75) rfl))) (by decide) (backOf (W := 1) (own_lnGet0 l Z a0 hw [] rl_164 re_164 rk_164 r_1 r_5 r_9 h164 n0 O165 c164_5 c164_6) hZ9 (hw _ (List.mem_of_getElem? (i := 127) rfl)) (hw _ (List.mem_of_getElem? (i := 76) rfl)) (by decide) (by decide)) qiv181a qiv181b qiv181c (g := (mkF m 176 #[.val (.int x0), .val (.int x1), .val (.int x2), .val (.int x3), .val (.int (3 : Int32)), .val (.ref r_1), .val (.ref r_5), .val (.ref r_9), .val (.ref r_164), .val (.ref rl_164), .val (.ref gwE)] [(.int (0 : Int32)), (.ref rl_164), (.ref r_1)])) rfl (by rw [hml]; rfl) (Steps.refl _) (argsL := [(.int (0 : Int32))]) (rest := [(.ref r_1)]) (lenOf own_pd_33 rfl) rfl (by show 2 * 0 + _ ≤ _; exact Nat.le_of_eq rfl) (hb hby at_176) (fun _ _ => ⟨rfl, e180, (by decide : 22 + 0 ≤ _), (by decide : 46 + 0 ≤ _)⟩)
    dsimp only [Pt.U, Pt.locs, Pt.cells, Pt.slots] at X182 l182 y182 z182 st182 hQ182
    subst l182 y182 z182
    obtain ⟨Nc182, e182, rfl⟩ := hQ182
    have N182 := Fr.app N180 Nc182
    refine own_goS st182 ?_
    show own_Goes p e below (T182.setTop (mkF m 181 #[.val (.int x0), .val (.int x1), .val (.int x2), .val (.int x3), .val (.int (3 : Int32)), .val (.ref r_1), .val (.ref r_5), .val (.ref r_9), .val (.ref r_164), .val (.ref rl_164), .val (.ref gwE)] [(.ref r_1), (.ref r_1)])) _
    have f183 := (f161.keep Kc164)
    obtain ⟨cqiv184, kqiv184, qiv184a, qiv184b, qiv184c⟩ := isOf hZ9 e182 f183
    obtain ⟨_, _, ⟨T185, L185, k185, n185⟩, -, X185, ⟨Lc185, hQ185, l185, y185, z185⟩, st185⟩ := X182.virtualBack hx (y := own_m37) (z := own_m37) hown9 (mvT hZ9 (hw _ (List.mem_of_getElem? (i := 128) rfl))) (mvT hZ9 (hw _ (List.mem_of_getElem? (i := 129) rfl))) (notFace_of_selects (args := #[]) (mvT hZ9 (hw _ (List.mem_of_getElem? (i := 131) rfl)))) (mvT hZ9 (hw _ (List.mem_of_getElem? (i := 131) rfl))) (mvT hZ9 (hw _ (List.mem_of_getElem? (i := 130) rfl))) (by decide) (backOf (W := 0) (own_eqSelf l Z a0 hw [] r_1 h164 n0 O165) hZ9 (hw _ (List.mem_of_getElem? (i := 132) rfl)) (hw _ (List.mem_of_getElem? (i := 6) rfl)) (by decide) (by decide)) qiv184a qiv184c (g := (mkF m 181 #[.val (.int x0), .val (.int x1), .val (.int x2), .val (.int x3), .val (.int (3 : Int32)), .val (.ref r_1), .val (.ref r_5), .val (.ref r_9), .val (.ref r_164), .val (.ref rl_164), .val (.ref gwE)] [(.ref r_1), (.ref r_1)])) rfl (by rw [hml]; rfl) (Steps.refl _) (argsL := [(.ref r_1)]) (rest := []) (lenOf own_pd_36 rfl) rfl (by show 2 * 0 + _ ≤ _; exact Nat.le_of_eq rfl) (hb hby at_181) (fun _ _ => ⟨rfl, e182, (by decide : 22 + 0 ≤ _), (by decide : 46 + 0 ≤ _)⟩)
    dsimp only [Pt.U, Pt.locs, Pt.cells, Pt.slots] at X185 l185 y185 z185 st185 hQ185
    subst l185 y185 z185
    obtain ⟨Nc185, e185, rfl⟩ := hQ185
    have N185 := Fr.app N182 Nc185
    refine own_goS st185 ?_
    show own_Goes p e below (T185.setTop (mkF m 184 #[.val (.int x0), .val (.int x1), .val (.int x2), .val (.int x3), .val (.int (3 : Int32)), .val (.ref r_1), .val (.ref r_5), .val (.ref r_9), .val (.ref r_164), .val (.ref rl_164), .val (.ref gwE)] [(.int (1 : Int32))])) _
    refine own_go (fun t_ k_ => XS.ifYes X185.here hx rfl (pc0 := 184) (pc' := 189) rfl (hb hby at_184) rfl ((if0 _ _).trans (feq (show ¬ ((1 : Int32) = (0 : Int32)) from by decide)).2) (by decide) (by decide) k_) ?_
    show own_Goes p e below (T185.setTop (mkF m 189 #[.val (.int x0), .val (.int x1), .val (.int x2), .val (.int x3), .val (.int (3 : Int32)), .val (.ref r_1), .val (.ref r_5), .val (.ref r_9), .val (.ref r_164), .val (.ref rl_164), .val (.ref gwE)] [])) _
    refine own_go (fun t_ k_ => XS.iload X185.here hx rfl (hb hby at_189) rfl k_) ?_
    show own_Goes p e below (T185.setTop (mkF m 191 #[.val (.int x0), .val (.int x1), .val (.int x2), .val (.int x3), .val (.int (3 : Int32)), .val (.ref r_1), .val (.ref r_5), .val (.ref r_9), .val (.ref r_164), .val (.ref rl_164), .val (.ref gwE)] [(.int (3 : Int32))])) _
    refine own_go (fun t_ k_ => XS.iconst X185.here hx rfl (hb hby at_191) k_) ?_
    show own_Goes p e below (T185.setTop (mkF m 192 #[.val (.int x0), .val (.int x1), .val (.int x2), .val (.int x3), .val (.int (3 : Int32)), .val (.ref r_1), .val (.ref r_5), .val (.ref r_9), .val (.ref r_164), .val (.ref rl_164), .val (.ref gwE)] [(.int (2 : Int32)), (.int (3 : Int32))])) _
    refine own_go (fun t_ k_ => XS.icmpNo X185.here hx rfl (hb hby at_192) rfl (flt (show ¬ ((3 : Int32) < (2 : Int32)) from by decide)).1 k_) ?_
    show own_Goes p e below (T185.setTop (mkF m 195 #[.val (.int x0), .val (.int x1), .val (.int x2), .val (.int x3), .val (.int (3 : Int32)), .val (.ref r_1), .val (.ref r_5), .val (.ref r_9), .val (.ref r_164), .val (.ref rl_164), .val (.ref gwE)] [])) _
    refine own_go (fun t_ k_ => XS.aload X185.here hx rfl (hb hby at_195) rfl rfl k_) ?_
    show own_Goes p e below (T185.setTop (mkF m 197 #[.val (.int x0), .val (.int x1), .val (.int x2), .val (.int x3), .val (.int (3 : Int32)), .val (.ref r_1), .val (.ref r_5), .val (.ref r_9), .val (.ref r_164), .val (.ref rl_164), .val (.ref gwE)] [(.ref r_5)])) _
    refine own_go (fun t_ k_ => XS.aload X185.here hx rfl (hb hby at_197) rfl rfl k_) ?_
    show own_Goes p e below (T185.setTop (mkF m 199 #[.val (.int x0), .val (.int x1), .val (.int x2), .val (.int x3), .val (.int (3 : Int32)), .val (.ref r_1), .val (.ref r_5), .val (.ref r_9), .val (.ref r_164), .val (.ref rl_164), .val (.ref gwE)] [(.ref rl_164), (.ref r_5)])) _
    refine own_go (fun t_ k_ => XS.iconst X185.here hx rfl (hb hby at_199) k_) ?_
    show own_Goes p e below (T185.setTop (mkF m 200 #[.val (.int x0), .val (.int x1), .val (.int x2), .val (.int x3), .val (.int (3 : Int32)), .val (.ref r_1), .val (.ref r_5), .val (.ref r_9), .val (.ref r_164), .val (.ref rl_164), .val (.ref gwE)] [(.int (1 : Int32)), (.ref rl_164), (.ref r_5)])) _
    obtain ⟨cqiv186, kqiv186, qiv186a, qiv186b, qiv186c⟩ := isOf hZ9 e185 c164_4
    obtain ⟨_, _, ⟨T187, L187, k187, n187⟩, -, X187, ⟨Lc187, hQ187, l187, y187, z187⟩, st187⟩ := X185.interfaceBack hx (xi := own_m34) (y := own_m38) hown9 (mvT hZ9 (hw _ (List.mem_of_getElem? (i := 120) rfl))) (mvT hZ9 (hw _ (List.mem_of_getElem? (i := 121) rfl))) (mvT hZ9 (hw _ (List.mem_of_getElem? (i := 122) rfl))) (mvT hZ9 (hw _ (List.mem_of_getElem? (i := 123) rfl))) (mvT hZ9 (hw _ (List.mem_of_getElem? (i := 124) rfl))) (mvT hZ9 (hw _ (List.mem_of_getElem? (i := 125) rfl))) (mvT hZ9 (hw _ (List.mem_of_getElem? (i := 126) rfl))) (mvT hZ9 (hw _ (List.mem_of_getElem? (i := 75) rfl))) (by decide) (backOf (W := 1) (own_lnGet1 l Z a0 hw [] rl_164 re_164 rk_164 r_1 r_5 r_9 h164 n0 O165 c164_5 c164_6) hZ9 (hw _ (List.mem_of_getElem? (i := 127) rfl)) (hw _ (List.mem_of_getElem? (i := 76) rfl)) (by decide) (by decide)) qiv186a qiv186b qiv186c (g := (mkF m 200 #[.val (.int x0), .val (.int x1), .val (.int x2), .val (.int x3), .val (.int (3 : Int32)), .val (.ref r_1), .val (.ref r_5), .val (.ref r_9), .val (.ref r_164), .val (.ref rl_164), .val (.ref gwE)] [(.int (1 : Int32)), (.ref rl_164), (.ref r_5)])) rfl (by rw [hml]; rfl) (Steps.refl _) (argsL := [(.int (1 : Int32))]) (rest := [(.ref r_5)]) (lenOf own_pd_33 rfl) rfl (by show 2 * 0 + _ ≤ _; exact Nat.le_of_eq rfl) (hb hby at_200) (fun _ _ => ⟨rfl, e185, (by decide : 22 + 0 ≤ _), (by decide : 46 + 0 ≤ _)⟩)
    dsimp only [Pt.U, Pt.locs, Pt.cells, Pt.slots] at X187 l187 y187 z187 st187 hQ187
    subst l187 y187 z187
    obtain ⟨Nc187, e187, rfl⟩ := hQ187
    have N187 := Fr.app N185 Nc187
    refine own_goS st187 ?_
    show own_Goes p e below (T187.setTop (mkF m 205 #[.val (.int x0), .val (.int x1), .val (.int x2), .val (.int x3), .val (.int (3 : Int32)), .val (.ref r_1), .val (.ref r_5), .val (.ref r_9), .val (.ref r_164), .val (.ref rl_164), .val (.ref gwE)] [(.ref r_5), (.ref r_5)])) _
    have f188 := (f162.keep Kc164)
    obtain ⟨cqiv189, kqiv189, qiv189a, qiv189b, qiv189c⟩ := isOf hZ9 e187 f188
    obtain ⟨_, _, ⟨T190, L190, k190, n190⟩, -, X190, ⟨Lc190, hQ190, l190, y190, z190⟩, st190⟩ := X187.virtualBack hx (y := own_m37) (z := own_m37) hown9 (mvT hZ9 (hw _ (List.mem_of_getElem? (i := 128) rfl))) (mvT hZ9 (hw _ (List.mem_of_getElem? (i := 129) rfl))) (notFace_of_selects (args := #[]) (mvT hZ9 (hw _ (List.mem_of_getElem? (i := 131) rfl)))) (mvT hZ9 (hw _ (List.mem_of_getElem? (i := 131) rfl))) (mvT hZ9 (hw _ (List.mem_of_getElem? (i := 130) rfl))) (by decide) (backOf (W := 0) (own_eqSelf l Z a0 hw [] r_5 h164 n0 O165) hZ9 (hw _ (List.mem_of_getElem? (i := 132) rfl)) (hw _ (List.mem_of_getElem? (i := 6) rfl)) (by decide) (by decide)) qiv189a qiv189c (g := (mkF m 205 #[.val (.int x0), .val (.int x1), .val (.int x2), .val (.int x3), .val (.int (3 : Int32)), .val (.ref r_1), .val (.ref r_5), .val (.ref r_9), .val (.ref r_164), .val (.ref rl_164), .val (.ref gwE)] [(.ref r_5), (.ref r_5)])) rfl (by rw [hml]; rfl) (Steps.refl _) (argsL := [(.ref r_5)]) (rest := []) (lenOf own_pd_36 rfl) rfl (by show 2 * 0 + _ ≤ _; exact Nat.le_of_eq rfl) (hb hby at_205) (fun _ _ => ⟨rfl, e187, (by decide : 22 + 0 ≤ _), (by decide : 46 + 0 ≤ _)⟩)
    dsimp only [Pt.U, Pt.locs, Pt.cells, Pt.slots] at X190 l190 y190 z190 st190 hQ190
    subst l190 y190 z190
    obtain ⟨Nc190, e190, rfl⟩ := hQ190
    have N190 := Fr.app N187 Nc190
    refine own_goS st190 ?_
    show own_Goes p e below (T190.setTop (mkF m 208 #[.val (.int x0), .val (.int x1), .val (.int x2), .val (.int x3), .val (.int (3 : Int32)), .val (.ref r_1), .val (.ref r_5), .val (.ref r_9), .val (.ref r_164), .val (.ref rl_164), .val (.ref gwE)] [(.int (1 : Int32))])) _
    refine own_go (fun t_ k_ => XS.ifYes X190.here hx rfl (pc0 := 208) (pc' := 213) rfl (hb hby at_208) rfl ((if0 _ _).trans (feq (show ¬ ((1 : Int32) = (0 : Int32)) from by decide)).2) (by decide) (by decide) k_) ?_
    show own_Goes p e below (T190.setTop (mkF m 213 #[.val (.int x0), .val (.int x1), .val (.int x2), .val (.int x3), .val (.int (3 : Int32)), .val (.ref r_1), .val (.ref r_5), .val (.ref r_9), .val (.ref r_164), .val (.ref rl_164), .val (.ref gwE)] [])) _
    refine own_go (fun t_ k_ => XS.iload X190.here hx rfl (hb hby at_213) rfl k_) ?_
    show own_Goes p e below (T190.setTop (mkF m 215 #[.val (.int x0), .val (.int x1), .val (.int x2), .val (.int x3), .val (.int (3 : Int32)), .val (.ref r_1), .val (.ref r_5), .val (.ref r_9), .val (.ref r_164), .val (.ref rl_164), .val (.ref gwE)] [(.int (3 : Int32))])) _
    refine own_go (fun t_ k_ => XS.iconst X190.here hx rfl (hb hby at_215) k_) ?_
    show own_Goes p e below (T190.setTop (mkF m 216 #[.val (.int x0), .val (.int x1), .val (.int x2), .val (.int x3), .val (.int (3 : Int32)), .val (.ref r_1), .val (.ref r_5), .val (.ref r_9), .val (.ref r_164), .val (.ref rl_164), .val (.ref gwE)] [(.int (3 : Int32)), (.int (3 : Int32))])) _
    refine own_go (fun t_ k_ => XS.icmpNo X190.here hx rfl (hb hby at_216) rfl (flt (show ¬ ((3 : Int32) < (3 : Int32)) from by decide)).1 k_) ?_
    show own_Goes p e below (T190.setTop (mkF m 219 #[.val (.int x0), .val (.int x1), .val (.int x2), .val (.int x3), .val (.int (3 : Int32)), .val (.ref r_1), .val (.ref r_5), .val (.ref r_9), .val (.ref r_164), .val (.ref rl_164), .val (.ref gwE)] [])) _
    refine own_go (fun t_ k_ => XS.aload X190.here hx rfl (hb hby at_219) rfl rfl k_) ?_
    show own_Goes p e below (T190.setTop (mkF m 221 #[.val (.int x0), .val (.int x1), .val (.int x2), .val (.int x3), .val (.int (3 : Int32)), .val (.ref r_1), .val (.ref r_5), .val (.ref r_9), .val (.ref r_164), .val (.ref rl_164), .val (.ref gwE)] [(.ref r_9)])) _
    refine own_go (fun t_ k_ => XS.aload X190.here hx rfl (hb hby at_221) rfl rfl k_) ?_
    show own_Goes p e below (T190.setTop (mkF m 223 #[.val (.int x0), .val (.int x1), .val (.int x2), .val (.int x3), .val (.int (3 : Int32)), .val (.ref r_1), .val (.ref r_5), .val (.ref r_9), .val (.ref r_164), .val (.ref rl_164), .val (.ref gwE)] [(.ref rl_164), (.ref r_9)])) _
    refine own_go (fun t_ k_ => XS.iconst X190.here hx rfl (hb hby at_223) k_) ?_
    show own_Goes p e below (T190.setTop (mkF m 224 #[.val (.int x0), .val (.int x1), .val (.int x2), .val (.int x3), .val (.int (3 : Int32)), .val (.ref r_1), .val (.ref r_5), .val (.ref r_9), .val (.ref r_164), .val (.ref rl_164), .val (.ref gwE)] [(.int (2 : Int32)), (.ref rl_164), (.ref r_9)])) _
    obtain ⟨cqiv191, kqiv191, qiv191a, qiv191b, qiv191c⟩ := isOf hZ9 e190 c164_4
    obtain ⟨_, _, ⟨T192, L192, k192, n192⟩, -, X192, ⟨Lc192, hQ192, l192, y192, z192⟩, st192⟩ := X190.interfaceBack hx (xi := own_m34) (y := own_m38) hown9 (mvT hZ9 (hw _ (List.mem_of_getElem? (i := 120) rfl))) (mvT hZ9 (hw _ (List.mem_of_getElem? (i := 121) rfl))) (mvT hZ9 (hw _ (List.mem_of_getElem? (i := 122) rfl))) (mvT hZ9 (hw _ (List.mem_of_getElem? (i := 123) rfl))) (mvT hZ9 (hw _ (List.mem_of_getElem? (i := 124) rfl))) (mvT hZ9 (hw _ (List.mem_of_getElem? (i := 125) rfl))) (mvT hZ9 (hw _ (List.mem_of_getElem? (i := 126) rfl))) (mvT hZ9 (hw _ (List.mem_of_getElem? (i := 75) rfl))) (by decide) (backOf (W := 1) (own_lnGet2 l Z a0 hw [] rl_164 re_164 rk_164 r_1 r_5 r_9 h164 n0 O165 c164_5 c164_6) hZ9 (hw _ (List.mem_of_getElem? (i := 127) rfl)) (hw _ (List.mem_of_getElem? (i := 76) rfl)) (by decide) (by decide)) qiv191a qiv191b qiv191c (g := (mkF m 224 #[.val (.int x0), .val (.int x1), .val (.int x2), .val (.int x3), .val (.int (3 : Int32)), .val (.ref r_1), .val (.ref r_5), .val (.ref r_9), .val (.ref r_164), .val (.ref rl_164), .val (.ref gwE)] [(.int (2 : Int32)), (.ref rl_164), (.ref r_9)])) rfl (by rw [hml]; rfl) (Steps.refl _) (argsL := [(.int (2 : Int32))]) (rest := [(.ref r_9)]) (lenOf own_pd_33 rfl) rfl (by show 2 * 0 + _ ≤ _; exact Nat.le_of_eq rfl) (hb hby at_224) (fun _ _ => ⟨rfl, e190, (by decide : 22 + 0 ≤ _), (by decide : 46 + 0 ≤ _)⟩)
    dsimp only [Pt.U, Pt.locs, Pt.cells, Pt.slots] at X192 l192 y192 z192 st192 hQ192
    subst l192 y192 z192
    obtain ⟨Nc192, e192, rfl⟩ := hQ192
    have N192 := Fr.app N190 Nc192
    refine own_goS st192 ?_
    show own_Goes p e below (T192.setTop (mkF m 229 #[.val (.int x0), .val (.int x1), .val (.int x2), .val (.int x3), .val (.int (3 : Int32)), .val (.ref r_1), .val (.ref r_5), .val (.ref r_9), .val (.ref r_164), .val (.ref rl_164), .val (.ref gwE)] [(.ref r_9), (.ref r_9)])) _
    have f193 := (f163.keep Kc164)
    obtain ⟨cqiv194, kqiv194, qiv194a, qiv194b, qiv194c⟩ := isOf hZ9 e192 f193
    obtain ⟨_, _, ⟨T195, L195, k195, n195⟩, -, X195, ⟨Lc195, hQ195, l195, y195, z195⟩, st195⟩ := X192.virtualBack hx (y := own_m37) (z := own_m37) hown9 (mvT hZ9 (hw _ (List.mem_of_getElem? (i := 128) rfl))) (mvT hZ9 (hw _ (List.mem_of_getElem? (i := 129) rfl))) (notFace_of_selects (args := #[]) (mvT hZ9 (hw _ (List.mem_of_getElem? (i := 131) rfl)))) (mvT hZ9 (hw _ (List.mem_of_getElem? (i := 131) rfl))) (mvT hZ9 (hw _ (List.mem_of_getElem? (i := 130) rfl))) (by decide) (backOf (W := 0) (own_eqSelf l Z a0 hw [] r_9 h164 n0 O165) hZ9 (hw _ (List.mem_of_getElem? (i := 132) rfl)) (hw _ (List.mem_of_getElem? (i := 6) rfl)) (by decide) (by decide)) qiv194a qiv194c (g := (mkF m 229 #[.val (.int x0), .val (.int x1), .val (.int x2), .val (.int x3), .val (.int (3 : Int32)), .val (.ref r_1), .val (.ref r_5), .val (.ref r_9), .val (.ref r_164), .val (.ref rl_164), .val (.ref gwE)] [(.ref r_9), (.ref r_9)])) rfl (by rw [hml]; rfl) (Steps.refl _) (argsL := [(.ref r_9)]) (rest := []) (lenOf own_pd_36 rfl) rfl (by show 2 * 0 + _ ≤ _; exact Nat.le_of_eq rfl) (hb hby at_229) (fun _ _ => ⟨rfl, e192, (by decide : 22 + 0 ≤ _), (by decide : 46 + 0 ≤ _)⟩)
    dsimp only [Pt.U, Pt.locs, Pt.cells, Pt.slots] at X195 l195 y195 z195 st195 hQ195
    subst l195 y195 z195
    obtain ⟨Nc195, e195, rfl⟩ := hQ195
    have N195 := Fr.app N192 Nc195
    refine own_goS st195 ?_
    show own_Goes p e below (T195.setTop (mkF m 232 #[.val (.int x0), .val (.int x1), .val (.int x2), .val (.int x3), .val (.int (3 : Int32)), .val (.ref r_1), .val (.ref r_5), .val (.ref r_9), .val (.ref r_164), .val (.ref rl_164), .val (.ref gwE)] [(.int (1 : Int32))])) _
    refine own_go (fun t_ k_ => XS.ifYes X195.here hx rfl (pc0 := 232) (pc' := 237) rfl (hb hby at_232) rfl ((if0 _ _).trans (feq (show ¬ ((1 : Int32) = (0 : Int32)) from by decide)).2) (by decide) (by decide) k_) ?_
    show own_Goes p e below (T195.setTop (mkF m 237 #[.val (.int x0), .val (.int x1), .val (.int x2), .val (.int x3), .val (.int (3 : Int32)), .val (.ref r_1), .val (.ref r_5), .val (.ref r_9), .val (.ref r_164), .val (.ref rl_164), .val (.ref gwE)] [])) _
    refine own_go (fun t_ k_ => XS.iconst X195.here hx rfl (hb hby at_237) k_) ?_
    show own_Goes p e below (T195.setTop (mkF m 238 #[.val (.int x0), .val (.int x1), .val (.int x2), .val (.int x3), .val (.int (3 : Int32)), .val (.ref r_1), .val (.ref r_5), .val (.ref r_9), .val (.ref r_164), .val (.ref rl_164), .val (.ref gwE)] [(.int (1 : Int32))])) _
    refine own_endH X195 hS9 (show _ ≤ T195.heap.size by rw [e195]; exact hk169) e195 hh CR168 hZ9 (own_EW hw) (v := (some (.int (1 : Int32)))) (fun h => by rw [hret] at h; cases h) hlk (by decide) (by decide) ?_ (fun fs hr => retOut X195 hx hret rfl (Or.inl ⟨rfl, Or.inr (Or.inl rfl), _, rfl⟩) (hb hby at_238) hr)
    show Q_rm0 Z x0 x1 x2 x3 gz gwE gwO gwA gk h0 n0 _ T195.heap _
    rw [e195]
    exact ⟨N195, trivial, rfl⟩
set_option maxRecDepth 65536 in
set_option maxHeartbeats 40000000 in
theorem comes_1 {Post : Tables → Env → Array Value → State → Outcome → State → Prop} (hpost : ∀ tb e args s v u, (limb_1_1.after args s (.returned v) u = true ∧ limb_1_2.after args s (.returned v) u = true ∧ True) → ReturnedEndW s (.returned v) u (Jvm.fieldLocs frame_1_writes args s ++ Jvm.arrayLocs frame_1_arrays args s ++ Jvm.staticLocs frame_1_statics s) 40 1216 → Post tb e args s (.returned v) u) :
    ArmFor flags0 classFile x code maxLocals ret World_1 tables_1 room_1 Calls_1 rest_1 Pre_1 Post := by
  intro l hfl _ _ p e ha hc hk s m args below hf hA hF happ hP
  obtain ⟨hcalls, hrest, hpre⟩ := hP
  obtain ⟨-, -, -, hnamed, -, -, -, hat⟩ := (Spec.applies_iff hf).mp happ
  obtain ⟨hg, hn⟩ := and_e (Cond.before_iff.mp (show (Jvm.Cond.and given_1 narrow_1).before args s = true from hpre))
  obtain ⟨hg_1, hg_2⟩ := and_e hg
  obtain ⟨hg_3, hg_4⟩ := and_e hg_2
  obtain ⟨hg_5, hg_6⟩ := and_e hg_4
  obtain ⟨hg_7, hg_8⟩ := and_e hg_6
  obtain ⟨w0, w1, w2, w3, rfl⟩ : ∃ w0 w1 w2 w3 : Value, args = #[w0, w1, w2, w3] := by
    have hs : args.size = 4 := by simpa [Cond.value, given_1] using hg_1
    obtain ⟨L⟩ := args
    match L, hs with
    | [w0, w1, w2, w3], _ => exact ⟨w0, w1, w2, w3, rfl⟩
  have hw := fun d (hd : d ∈ tables_1) => atoms_spec (ws := Jvm.Cond.code x code maxLocals ret :: tables_1) hat d (List.mem_cons_of_mem _ hd)
  have hfit : Fit s := fun {y c} hc i hi => by
    obtain ⟨ha, rfl⟩ := Array.getElem?_eq_some_iff.mp hc
    have q := List.all_eq_true.mp ((Array.all_eq_true_iff_forall_mem.mp hF) _ (Array.getElem_mem ha)) i (List.mem_range.mpr hi)
    simpa [Array.getElem?_eq_getElem hi] using q
  obtain ⟨hsets, hown0⟩ := atoms_of _ (rest_1_c_eq ▸ (show rest_1_c.before _ s = true from hrest))
  have hr0 := Cond.before_iff.mp hown0
  obtain ⟨i0, ei0⟩ := is_v hg_3
  obtain rfl : w0 = (.int i0) := Option.some.inj ei0
  obtain ⟨i1, ei1⟩ := is_v hg_5
  obtain rfl : w1 = (.int i1) := Option.some.inj ei1
  obtain ⟨i2, ei2⟩ := is_v hg_7
  obtain rfl : w2 = (.int i2) := Option.some.inj ei2
  obtain ⟨i3, ei3⟩ := is_v hg_8
  obtain rfl : w3 = (.int i3) := Option.some.inj ei3
  obtain ⟨gz, ez⟩ := is_v (Cond.before_iff.mp (hsets _ (List.mem_of_getElem? (i := 1) rfl)))
  have sz_ := Sta.start ez (Or.inl (hsets _ (List.mem_of_getElem? (i := 0) rfl)))
  have nz_ : ¬ gz = (0 : Int32) := gotF (Cond.eq_ints ez (Term.int_eval _)) (not_v (Cond.before_iff.mp (hsets _ (List.mem_of_getElem? (i := 2) rfl))))
  obtain ⟨gwE, eE⟩ := exa_v (Cond.before_iff.mp (hsets _ (List.mem_of_getElem? (i := 11) rfl)))
  have sE := Sta.start eE (Or.inl (hsets _ (List.mem_of_getElem? (i := 10) rfl)))
  have xE := Exa.start eE (Cond.before_iff.mp (hsets _ (List.mem_of_getElem? (i := 11) rfl)))
  obtain ⟨gwO, eO⟩ := exa_v (Cond.before_iff.mp (hsets _ (List.mem_of_getElem? (i := 18) rfl)))
  have sO := Sta.start eO (Or.inl (hsets _ (List.mem_of_getElem? (i := 17) rfl)))
  have xO := Exa.start eO (Cond.before_iff.mp (hsets _ (List.mem_of_getElem? (i := 18) rfl)))
  obtain ⟨gwA, eA⟩ := exa_v (Cond.before_iff.mp (hsets _ (List.mem_of_getElem? (i := 13) rfl)))
  have fE : Fld s s.heap gwE "java/util/ImmutableCollections$ListN" "elements" "[Ljava/lang/Object;" (.ref gwA) := Fld.start ((fld_at eE).symm.trans eA)
  obtain ⟨clA, aA⟩ := Arr.start eA (Cond.before_iff.mp (hsets _ (List.mem_of_getElem? (i := 12) rfl)))
  have lA := own_len eA aA (eqv_i (Term.int_eval _) (Cond.before_iff.mp (hsets _ (List.mem_of_getElem? (i := 14) rfl))))
  have vA : Arv s s.heap gwA clA.cls (.object "java/lang/Object") (0 : Int32) [] .null := Arv.start hfit aA lA.2 lA.1 (by decide) rfl trivial
  have hC0 : CHv s consts_1 s.vm s.heap := CHv.start (own_EW hw) hcalls.1 (hsets _ (List.mem_of_getElem? (i := 2) rfl)) (hw _ (List.mem_of_getElem? (i := 23) rfl)) (hw _ (List.mem_of_getElem? (i := 5) rfl))
  obtain ⟨n, o, h1, h2, h3, _, L, rfl, ⟨N, -, rfl⟩, -, hq⟩ := rm0 l s _ hw tables_1 i0 i1 i2 i3 s.heap s.heap.size (Old.start s) gz gwE gwO gwA clA.cls ⟨sz_, nz_, sE, xE, sO, xO, fE, vA⟩ p e ha hc hk s m _ below hf ((Spec.applies_iff_loose hf).mp happ).1 ⟨rfl, State.Warmed39.refl s, rfl, hC0⟩ trivial
  refine ⟨n, _, h1, h2, h3, hpost _ _ _ _ _ _ ⟨Cond.after_iff.mpr rfl, Cond.after_iff.mpr (eq_i res_at (Term.int_eval (1)) rfl), trivial⟩ ⟨hq.1, hq.2.1, hq.2.2.1, (hq.2.2.2.sift fun y hy => Or.inr (N y hy)).mono (by decide) (by decide)⟩⟩
theorem main_1_1 : Claimed_1_1 := comes_1 fun _ _ _ _ _ _ h hF => ⟨h.1, hF⟩
theorem main_1_2 : Claimed_1_2 := comes_1 fun _ _ _ _ _ _ h hF => ⟨h.2.1, hF⟩
end Jvm.Pilot.@@N@@
namespace Jvm.Pilot.@@N@@
open Jvm Jvm.ClassFile Sem Op Lib Jvm.Free Jvm.Stand Jvm.Pilot.@@N@@.Jvm.D
/-! MADE BY PROGRAM (witnessworld.py) out of the Statement's table words and the real class files: 34 classes; the members and pool entries that the words name. The judged class is class 1, her method 1. -/
namespace start1
open Jvm.ClassFile
def u (s : String) : CpInfo := .utf8 (stringToUtf16 s)
/-- a pool by its gaps: so many unusable entries, then the entry; so many at the end -/
def gap : Nat → List CpInfo → List CpInfo
  | 0, r => r
  | n + 1, r => .unusable :: gap n r
def poolList (es : List (Nat × CpInfo)) (last : Nat) : List CpInfo := es.foldr (fun e r => gap e.1 (e.2 :: r)) (gap last [])
def pool (es : List (Nat × CpInfo)) (last : Nat) : Array CpInfo := ⟨poolList es last⟩
def fileOf (pool : Array CpInfo) (this : Nat) (attrs : Array Attribute := #[]) (ms : Array MethodInfo := #[]) (fl : Nat := 33) (sup : Nat := 0) (ifs : Array Nat := #[]) (fds : Array FieldInfo := #[]) : ClassFile where
  minorVersion := 0
  majorVersion := 65
  constantPool := pool
  accessFlags := fl
  thisClass := this
  superClass := sup
  interfaces := ifs
  fields := fds
  methods := ms
  attributes := attrs
def plain (name : String) (sup : Option ClassId) : Class where
  name := name
  kind := .ordinary
  loader := none
  accessFlags := 33
  super := sup
  interfaces := #[]
  cf := none
  fields := #[]
  methods := #[]
  instanceTypes := #[]
  staticTypes := #[]
  resolved := #[]
  callSites := []
  init := .initialized
  statics := none
  mirror := none

def pool0 : Array CpInfo := pool [(5, u "<init>"), (0, u "()V"), (1, .class_ 10), (1, u "java/lang/Object")] 113

def k0c0 : Code := { maxStack := 0, maxLocals := 1, code := object_method_1_code, exceptionTable := #[], attributes := #[] }
def k0m0 : Method := { name := "<init>", desc := "()V", sig := { parameters := [], returnType := none }, accessFlags := 1, code := some k0c0 }
/-- java/lang/Object -/
def k0 : Class := { plain "java/lang/Object" none with
  accessFlags := 33
  interfaces := #[]
  cf := some (fileOf pool0 8 #[] #[{ accessFlags := 1, nameIndex := 5, descriptorIndex := 6, attributes := #[] }] 33 0 #[] #[])
  fields := #[]
  methods := #[k0m0]
  instanceTypes := #[]
  staticTypes := #[]
  resolved := Array.replicate 124 none
  statics := none }

def pool1 : Array CpInfo := pool [(2, .class_ 4), (1, u "java/lang/Object"), (0, u "<init>"), (0, u "()V"), (0, .methodref 8 9), (0, .class_ 10), (0, .nameAndType 11 12), (0, u "com/example/saasy/saasy/ledger/SchemaStepOfPinLaw"), (0, u "str"), (0, u "(I)Ljava/lang/String;"), (0, .class_ 14), (0, u "java/lang/String"), (0, .methodref 16 17), (0, .class_ 18), (0, .nameAndType 19 20), (0, u "com/example/saasy/saasy/ledger/SchemaStep"), (0, u "of"), (0, u "([Ljava/lang/String;)Lcom/example/saasy/saasy/ledger/SchemaStep;"), (0, .methodref 16 22), (0, .nameAndType 23 24), (0, u "statements"), (0, u "()Ljava/util/List;"), (0, .methodref 16 26), (0, .nameAndType 27 24), (0, u "rewritten"), (0, .interfaceMethodref 29 30), (0, .class_ 31), (0, .nameAndType 32 33), (0, u "java/util/List"), (0, u "size"), (0, u "()I"), (0, .interfaceMethodref 29 35), (0, .nameAndType 36 37), (0, u "get"), (0, u "(I)Ljava/lang/Object;"), (0, .methodref 13 39), (0, .nameAndType 40 41), (0, u "equals"), (0, u "(Ljava/lang/Object;)Z"), (0, .methodref 13 43), (0, .nameAndType 5 44), (0, u "([C)V"), (2, u "law"), (0, u "(IIII)Z")] 3

def k1m0 : Method := { name := "<init>", desc := "()V", sig := { parameters := [], returnType := none }, accessFlags := 1, code := none }
def k1c1 : Code := { maxStack := 4, maxLocals := 11, code := code, exceptionTable := #[], attributes := #[] }
def k1m1 : Method := { name := "law", desc := "(IIII)Z", sig := { parameters := [.int, .int, .int, .int], returnType := some .boolean }, accessFlags := 9, code := some k1c1 }
def k1c2 : Code := { maxStack := 6, maxLocals := 5, code := method_3_code, exceptionTable := #[], attributes := #[] }
def k1m2 : Method := { name := "str", desc := "(I)Ljava/lang/String;", sig := { parameters := [.int], returnType := some (.object "java/lang/String") }, accessFlags := 10, code := some k1c2 }
/-- com/example/saasy/saasy/ledger/SchemaStepOfPinLaw -/
def k1 : Class := { plain "com/example/saasy/saasy/ledger/SchemaStepOfPinLaw" (some 0) with
  accessFlags := 49
  interfaces := #[]
  cf := some (fileOf pool1 8 #[] #[{ accessFlags := 1, nameIndex := 5, descriptorIndex := 6, attributes := #[] }, { accessFlags := 9, nameIndex := 47, descriptorIndex := 48, attributes := #[] }, { accessFlags := 10, nameIndex := 11, descriptorIndex := 12, attributes := #[] }] 49 2 #[] #[])
  fields := #[]
  methods := #[k1m0, k1m1, k1m2]
  instanceTypes := #[]
  staticTypes := #[]
  resolved := Array.replicate 52 none
  statics := none }

def pool2 : Array CpInfo := pool [(1, .class_ 2), (0, u "java/io/Serializable"), (0, .class_ 4), (0, u "java/lang/Object")] 2

/-- java/io/Serializable -/
def k2 : Class := { plain "java/io/Serializable" (some 0) with
  accessFlags := 1537
  interfaces := #[]
  cf := some (fileOf pool2 1 #[] #[] 1537 3 #[] #[])
  fields := #[]
  methods := #[]
  instanceTypes := #[]
  staticTypes := #[]
  resolved := Array.replicate 7 none
  statics := none }

def pool3 : Array CpInfo := pool [(1, .class_ 2), (0, u "java/lang/Comparable"), (0, .class_ 4), (0, u "java/lang/Object")] 7

/-- java/lang/Comparable -/
def k3 : Class := { plain "java/lang/Comparable" (some 0) with
  accessFlags := 1537
  interfaces := #[]
  cf := some (fileOf pool3 1 #[] #[] 1537 3 #[] #[])
  fields := #[]
  methods := #[]
  instanceTypes := #[]
  staticTypes := #[]
  resolved := Array.replicate 12 none
  statics := none }

def pool4 : Array CpInfo := pool [(2, .class_ 4), (1, u "java/lang/CharSequence"), (42, .class_ 48), (0, u "java/lang/CharSequence$1CodePointIterator"), (10, .class_ 60), (0, u "java/lang/CharSequence$1CharIterator"), (5, .class_ 67), (0, u "java/lang/Object")] 63

/-- java/lang/CharSequence -/
def k4 : Class := { plain "java/lang/CharSequence" (some 0) with
  accessFlags := 1537
  interfaces := #[]
  cf := some (fileOf pool4 2 #[.nestMembers #[47, 59]] #[] 1537 66 #[] #[])
  fields := #[]
  methods := #[]
  instanceTypes := #[]
  staticTypes := #[]
  resolved := Array.replicate 131 none
  statics := none }

def pool5 : Array CpInfo := pool [(1, .class_ 2), (0, u "java/lang/constant/Constable"), (0, .class_ 4), (0, u "java/lang/Object")] 6

/-- java/lang/constant/Constable -/
def k5 : Class := { plain "java/lang/constant/Constable" (some 0) with
  accessFlags := 1537
  interfaces := #[]
  cf := some (fileOf pool5 1 #[] #[] 1537 3 #[] #[])
  fields := #[]
  methods := #[]
  instanceTypes := #[]
  staticTypes := #[]
  resolved := Array.replicate 11 none
  statics := none }

def pool6 : Array CpInfo := pool [(1, .class_ 2), (0, u "java/lang/constant/ConstantDesc"), (0, .class_ 4), (0, u "java/lang/Object")] 32

/-- java/lang/constant/ConstantDesc -/
def k6 : Class := { plain "java/lang/constant/ConstantDesc" (some 0) with
  accessFlags := 1537
  interfaces := #[]
  cf := some (fileOf pool6 1 #[] #[] 1537 3 #[] #[])
  fields := #[]
  methods := #[]
  instanceTypes := #[]
  staticTypes := #[]
  resolved := Array.replicate 37 none
  statics := none }

def pool7 : Array CpInfo := pool [(1, .methodref 2 3), (0, .class_ 4), (0, .nameAndType 5 6), (0, u "java/lang/Object"), (0, u "<init>"), (0, u "()V"), (0, .string 8), (0, u ""), (0, .fieldref 10 11), (0, .class_ 12), (0, .nameAndType 13 14), (0, u "java/lang/String"), (0, u "value"), (0, u "[B"), (0, .fieldref 10 16), (0, .nameAndType 17 18), (0, u "coder"), (0, u "B"), (2, u "hash"), (0, u "I"), (2, u "hashIsZero"), (0, u "Z"), (0, .methodref 10 28), (0, .nameAndType 5 29), (0, u "([CIILjava/lang/Void;)V"), (8, .fieldref 10 39), (0, .nameAndType 40 26), (0, u "COMPACT_STRINGS"), (1, .class_ 44), (1, u "java/lang/StringUTF16"), (0, u "compress"), (1, .methodref 42 48), (0, .nameAndType 49 50), (0, u "coderFromArrayLen"), (0, u "([BI)B"), (126, .methodref 42 178), (0, .nameAndType 45 179), (0, u "([CII)[B"), (363, u "equals"), (29, u "(Ljava/lang/Object;)Z"), (1, .class_ 576), (0, u "java/lang/CharSequence"), (22, u "CASE_INSENSITIVE_ORDER"), (0, u "Ljava/util/Comparator;"), (409, u "([C)V"), (90, u "serialPersistentFields"), (0, u "[Ljava/io/ObjectStreamField;"), (0, .class_ 1104), (0, u "java/lang/String$CaseInsensitiveComparator"), (1, .class_ 1107), (0, u "java/io/Serializable"), (0, .class_ 1109), (0, u "java/lang/Comparable"), (0, .class_ 1111), (0, u "java/lang/constant/Constable"), (0, .class_ 1113), (0, u "java/lang/constant/ConstantDesc"), (2, u "serialVersionUID"), (0, u "J"), (3, u "REPL"), (0, u "C"), (2, u "LATIN1"), (1, u "UTF16")] 323

def k7m0 : Method := { name := "<init>", desc := "()V", sig := { parameters := [], returnType := none }, accessFlags := 1, code := none }
def k7c1 : Code := { maxStack := 5, maxLocals := 2, code := jdk_42_method_3_code, exceptionTable := #[], attributes := #[] }
def k7m1 : Method := { name := "<init>", desc := "([C)V", sig := { parameters := [(.array .char)], returnType := none }, accessFlags := 1, code := some k7c1 }
def k7c2 : Code := { maxStack := 2, maxLocals := 3, code := jdk_42_method_66_code, exceptionTable := #[], attributes := #[] }
def k7m2 : Method := { name := "equals", desc := "(Ljava/lang/Object;)Z", sig := { parameters := [(.object "java/lang/Object")], returnType := some .boolean }, accessFlags := 1, code := some k7c2 }
def k7c3 : Code := { maxStack := 4, maxLocals := 6, code := jdk_42_method_149_code, exceptionTable := #[], attributes := #[] }
def k7m3 : Method := { name := "<init>", desc := "([CIILjava/lang/Void;)V", sig := { parameters := [(.array .char), .int, .int, (.object "java/lang/Void")], returnType := none }, accessFlags := 2, code := some k7c3 }
/-- java/lang/String -/
def k7 : Class := { plain "java/lang/String" (some 0) with
  accessFlags := 49
  interfaces := #[2, 3, 4, 5, 6]
  cf := some (fileOf pool7 10 #[.nestMembers #[1103]] #[{ accessFlags := 1, nameIndex := 5, descriptorIndex := 6, attributes := #[] }, { accessFlags := 1, nameIndex := 5, descriptorIndex := 1010, attributes := #[] }, { accessFlags := 1, nameIndex := 543, descriptorIndex := 573, attributes := #[] }, { accessFlags := 2, nameIndex := 5, descriptorIndex := 29, attributes := #[] }] 49 2 #[1106, 1108, 575, 1110, 1112] #[{ accessFlags := 18, nameIndex := 13, descriptorIndex := 14, attributes := #[] }, { accessFlags := 18, nameIndex := 17, descriptorIndex := 18, attributes := #[] }, { accessFlags := 2, nameIndex := 21, descriptorIndex := 22, attributes := #[] }, { accessFlags := 2, nameIndex := 25, descriptorIndex := 26, attributes := #[] }, { accessFlags := 26, nameIndex := 1116, descriptorIndex := 1117, attributes := #[] }, { accessFlags := 24, nameIndex := 40, descriptorIndex := 26, attributes := #[] }, { accessFlags := 26, nameIndex := 1101, descriptorIndex := 1102, attributes := #[] }, { accessFlags := 26, nameIndex := 1121, descriptorIndex := 1122, attributes := #[] }, { accessFlags := 25, nameIndex := 599, descriptorIndex := 600, attributes := #[] }, { accessFlags := 24, nameIndex := 1125, descriptorIndex := 18, attributes := #[] }, { accessFlags := 24, nameIndex := 1127, descriptorIndex := 18, attributes := #[] }])
  fields := #[{ name := "value", type := (.array .byte), accessFlags := 18, slot := 0, constantValue := 0 }, { name := "coder", type := .byte, accessFlags := 18, slot := 1, constantValue := 0 }, { name := "hash", type := .int, accessFlags := 2, slot := 2, constantValue := 0 }, { name := "hashIsZero", type := .boolean, accessFlags := 2, slot := 3, constantValue := 0 }, { name := "serialVersionUID", type := .long, accessFlags := 26, slot := 0, constantValue := 0 }, { name := "COMPACT_STRINGS", type := .boolean, accessFlags := 24, slot := 1, constantValue := 0 }, { name := "serialPersistentFields", type := (.array (.object "java/io/ObjectStreamField")), accessFlags := 26, slot := 2, constantValue := 0 }, { name := "REPL", type := .char, accessFlags := 26, slot := 3, constantValue := 0 }, { name := "CASE_INSENSITIVE_ORDER", type := (.object "java/util/Comparator"), accessFlags := 25, slot := 4, constantValue := 0 }, { name := "LATIN1", type := .byte, accessFlags := 24, slot := 5, constantValue := 0 }, { name := "UTF16", type := .byte, accessFlags := 24, slot := 6, constantValue := 0 }]
  methods := #[k7m0, k7m1, k7m2, k7m3]
  instanceTypes := #[(.array .byte), .byte, .int, .boolean]
  staticTypes := #[.long, .boolean, (.array (.object "java/io/ObjectStreamField")), .char, (.object "java/util/Comparator"), .byte, .byte]
  resolved := Array.replicate 1451 none
  statics := some 0 }

def pool8 : Array CpInfo := pool [(6, .class_ 8), (1, u "java/lang/Object"), (0, u "<init>"), (0, u "()V"), (1, .class_ 14), (1, u "java/lang/StringUTF16"), (31, u "$assertionsDisabled"), (0, u "Z"), (13, u "HI_BYTE_SHIFT"), (0, u "I"), (2, u "LO_BYTE_SHIFT"), (49, .methodref 12 116), (0, .nameAndType 117 118), (0, u "compress"), (0, u "([CI[BII)I"), (3, u "([CII)[B"), (138, u "coderFromArrayLen"), (0, u "([BI)B"), (106, .class_ 371), (1, u "java/lang/StringUTF16$LinesSpliterator"), (58, u "MAX_LENGTH"), (196, .class_ 628), (0, u "java/lang/StringUTF16$CodePointsSpliterator"), (0, .class_ 630), (0, u "java/lang/StringUTF16$CharsSpliterator")] 4

def k8m0 : Method := { name := "<init>", desc := "()V", sig := { parameters := [], returnType := none }, accessFlags := 0, code := none }
def k8c1 : Code := { maxStack := 2, maxLocals := 2, code := jdk_52_method_15_code, exceptionTable := #[], attributes := #[] }
def k8m1 : Method := { name := "coderFromArrayLen", desc := "([BI)B", sig := { parameters := [(.array .byte), .int], returnType := some .byte }, accessFlags := 8, code := some k8c1 }
def k8c2 : Code := { maxStack := 5, maxLocals := 6, code := jdk_52_method_16_code, exceptionTable := #[], attributes := #[] }
def k8m2 : Method := { name := "compress", desc := "([CII)[B", sig := { parameters := [(.array .char), .int, .int], returnType := some (.array .byte) }, accessFlags := 9, code := some k8c2 }
def k8c3 : Code := { maxStack := 3, maxLocals := 7, code := jdk_52_method_21_code, exceptionTable := #[], attributes := #[] }
def k8m3 : Method := { name := "compress", desc := "([CI[BII)I", sig := { parameters := [(.array .char), .int, (.array .byte), .int, .int], returnType := some .int }, accessFlags := 9, code := some k8c3 }
/-- java/lang/StringUTF16 -/
def k8 : Class := { plain "java/lang/StringUTF16" (some 0) with
  accessFlags := 48
  interfaces := #[]
  cf := some (fileOf pool8 12 #[.nestMembers #[627, 629, 369]] #[{ accessFlags := 0, nameIndex := 9, descriptorIndex := 10, attributes := #[] }, { accessFlags := 8, nameIndex := 261, descriptorIndex := 262, attributes := #[] }, { accessFlags := 9, nameIndex := 117, descriptorIndex := 122, attributes := #[] }, { accessFlags := 9, nameIndex := 117, descriptorIndex := 118, attributes := #[] }] 48 6 #[] #[{ accessFlags := 26, nameIndex := 61, descriptorIndex := 62, attributes := #[] }, { accessFlags := 26, nameIndex := 65, descriptorIndex := 62, attributes := #[] }, { accessFlags := 24, nameIndex := 430, descriptorIndex := 62, attributes := #[] }, { accessFlags := 4120, nameIndex := 46, descriptorIndex := 47, attributes := #[] }])
  fields := #[{ name := "HI_BYTE_SHIFT", type := .int, accessFlags := 26, slot := 0, constantValue := 0 }, { name := "LO_BYTE_SHIFT", type := .int, accessFlags := 26, slot := 1, constantValue := 0 }, { name := "MAX_LENGTH", type := .int, accessFlags := 24, slot := 2, constantValue := 0 }, { name := "$assertionsDisabled", type := .boolean, accessFlags := 4120, slot := 3, constantValue := 0 }]
  methods := #[k8m0, k8m1, k8m2, k8m3]
  instanceTypes := #[]
  staticTypes := #[.int, .int, .int, .boolean]
  resolved := Array.replicate 635 none
  statics := none }

def pool9 : Array CpInfo := pool [(1, .methodref 2 3), (0, .class_ 4), (0, .nameAndType 5 6), (0, u "java/lang/Object"), (0, u "<init>"), (0, u "()V"), (0, .fieldref 8 9), (0, .class_ 10), (0, .nameAndType 11 12), (0, u "com/example/saasy/saasy/ledger/SchemaStep"), (0, u "rewritten"), (0, u "Ljava/util/List;"), (0, .fieldref 8 14), (0, .nameAndType 15 12), (0, u "statements"), (0, .interfaceMethodref 17 18), (0, .class_ 19), (0, .nameAndType 20 21), (0, u "java/util/List"), (0, u "of"), (0, u "()Ljava/util/List;"), (0, .interfaceMethodref 17 23), (0, .nameAndType 20 24), (0, u "([Ljava/lang/Object;)Ljava/util/List;"), (0, .methodref 8 26), (0, .nameAndType 5 27), (0, u "(Ljava/util/List;Ljava/util/List;)V"), (9, u "([Ljava/lang/String;)Lcom/example/saasy/saasy/ledger/SchemaStep;")] 6

def k9c0 : Code := { maxStack := 2, maxLocals := 3, code := prog_16_method_1_code, exceptionTable := #[], attributes := #[] }
def k9m0 : Method := { name := "<init>", desc := "(Ljava/util/List;Ljava/util/List;)V", sig := { parameters := [(.object "java/util/List"), (.object "java/util/List")], returnType := none }, accessFlags := 2, code := some k9c0 }
def k9c1 : Code := { maxStack := 4, maxLocals := 1, code := prog_16_method_2_code, exceptionTable := #[], attributes := #[] }
def k9m1 : Method := { name := "of", desc := "([Ljava/lang/String;)Lcom/example/saasy/saasy/ledger/SchemaStep;", sig := { parameters := [(.array (.object "java/lang/String"))], returnType := some (.object "com/example/saasy/saasy/ledger/SchemaStep") }, accessFlags := 136, code := some k9c1 }
def k9c2 : Code := { maxStack := 1, maxLocals := 1, code := prog_16_method_4_code, exceptionTable := #[], attributes := #[] }
def k9m2 : Method := { name := "statements", desc := "()Ljava/util/List;", sig := { parameters := [], returnType := some (.object "java/util/List") }, accessFlags := 0, code := some k9c2 }
def k9c3 : Code := { maxStack := 1, maxLocals := 1, code := prog_16_method_5_code, exceptionTable := #[], attributes := #[] }
def k9m3 : Method := { name := "rewritten", desc := "()Ljava/util/List;", sig := { parameters := [], returnType := some (.object "java/util/List") }, accessFlags := 0, code := some k9c3 }
/-- com/example/saasy/saasy/ledger/SchemaStep -/
def k9 : Class := { plain "com/example/saasy/saasy/ledger/SchemaStep" (some 0) with
  accessFlags := 48
  interfaces := #[]
  cf := some (fileOf pool9 8 #[] #[{ accessFlags := 2, nameIndex := 5, descriptorIndex := 27, attributes := #[] }, { accessFlags := 136, nameIndex := 20, descriptorIndex := 37, attributes := #[] }, { accessFlags := 0, nameIndex := 15, descriptorIndex := 21, attributes := #[] }, { accessFlags := 0, nameIndex := 11, descriptorIndex := 21, attributes := #[] }] 48 2 #[] #[{ accessFlags := 18, nameIndex := 11, descriptorIndex := 12, attributes := #[] }, { accessFlags := 18, nameIndex := 15, descriptorIndex := 12, attributes := #[] }])
  fields := #[{ name := "rewritten", type := (.object "java/util/List"), accessFlags := 18, slot := 0, constantValue := 0 }, { name := "statements", type := (.object "java/util/List"), accessFlags := 18, slot := 1, constantValue := 0 }]
  methods := #[k9m0, k9m1, k9m2, k9m3]
  instanceTypes := #[(.object "java/util/List"), (.object "java/util/List")]
  staticTypes := #[]
  resolved := Array.replicate 44 none
  statics := none }

def pool10 : Array CpInfo := pool [(8, .class_ 10), (1, u "java/lang/Iterable"), (24, .class_ 36), (0, u "java/lang/Object")] 25

/-- java/lang/Iterable -/
def k10 : Class := { plain "java/lang/Iterable" (some 0) with
  accessFlags := 1537
  interfaces := #[]
  cf := some (fileOf pool10 8 #[] #[] 1537 35 #[] #[])
  fields := #[]
  methods := #[]
  instanceTypes := #[]
  staticTypes := #[]
  resolved := Array.replicate 62 none
  statics := none }

def pool11 : Array CpInfo := pool [(10, .class_ 12), (1, u "java/util/Collection"), (47, .class_ 61), (0, u "java/lang/Object"), (0, .class_ 63), (0, u "java/lang/Iterable")] 51

/-- java/util/Collection -/
def k11 : Class := { plain "java/util/Collection" (some 0) with
  accessFlags := 1537
  interfaces := #[10]
  cf := some (fileOf pool11 10 #[] #[] 1537 60 #[62] #[])
  fields := #[]
  methods := #[]
  instanceTypes := #[]
  staticTypes := #[]
  resolved := Array.replicate 115 none
  statics := none }

def pool12 : Array CpInfo := pool [(8, .class_ 10), (1, u "java/util/SequencedCollection"), (15, .class_ 27), (0, u "java/lang/Object"), (0, .class_ 29), (0, u "java/util/Collection")] 27

/-- java/util/SequencedCollection -/
def k12 : Class := { plain "java/util/SequencedCollection" (some 0) with
  accessFlags := 1537
  interfaces := #[11]
  cf := some (fileOf pool12 8 #[] #[] 1537 26 #[28] #[])
  fields := #[]
  methods := #[]
  instanceTypes := #[]
  staticTypes := #[]
  resolved := Array.replicate 57 none
  statics := none }

def pool13 : Array CpInfo := pool [(8, .class_ 10), (1, u "java/util/List"), (20, u "(Ljava/lang/Object;)V"), (16, u "<init>"), (26, u "get"), (0, u "(I)Ljava/lang/Object;"), (2, u "size"), (0, u "()I"), (7, u "of"), (1, .fieldref 91 92), (0, .class_ 93), (0, .nameAndType 94 95), (0, u "java/util/ImmutableCollections"), (0, u "EMPTY_LIST"), (0, u "Ljava/util/ImmutableCollections$ListN;"), (0, .class_ 97), (0, u "java/util/ImmutableCollections$List12"), (0, .methodref 96 99), (0, .nameAndType 48 31), (0, .methodref 96 101), (0, .nameAndType 48 102), (0, u "(Ljava/lang/Object;Ljava/lang/Object;)V"), (0, .class_ 104), (0, u "java/lang/Object"), (3, u "([Ljava/lang/Object;)Ljava/util/List;"), (0, .methodref 91 110), (0, .nameAndType 111 108), (0, u "listFromArray"), (7, u "()Ljava/util/List;"), (0, .class_ 121), (0, u "java/util/SequencedCollection")] 129

def k13m0 : Method := { name := "size", desc := "()I", sig := { parameters := [], returnType := some .int }, accessFlags := 1025, code := none }
def k13m1 : Method := { name := "get", desc := "(I)Ljava/lang/Object;", sig := { parameters := [.int], returnType := some (.object "java/lang/Object") }, accessFlags := 1025, code := none }
def k13c2 : Code := { maxStack := 1, maxLocals := 0, code := jdk_40_method_36_code, exceptionTable := #[], attributes := #[] }
def k13m2 : Method := { name := "of", desc := "()Ljava/util/List;", sig := { parameters := [], returnType := some (.object "java/util/List") }, accessFlags := 9, code := some k13c2 }
def k13c3 : Code := { maxStack := 5, maxLocals := 2, code := jdk_40_method_47_code, exceptionTable := #[], attributes := #[] }
def k13m3 : Method := { name := "of", desc := "([Ljava/lang/Object;)Ljava/util/List;", sig := { parameters := [(.array (.object "java/lang/Object"))], returnType := some (.object "java/util/List") }, accessFlags := 137, code := some k13c3 }
/-- java/util/List -/
def k13 : Class := { plain "java/util/List" (some 0) with
  accessFlags := 1537
  interfaces := #[12]
  cf := some (fileOf pool13 8 #[] #[{ accessFlags := 1025, nameIndex := 79, descriptorIndex := 80, attributes := #[] }, { accessFlags := 1025, nameIndex := 75, descriptorIndex := 76, attributes := #[] }, { accessFlags := 9, nameIndex := 88, descriptorIndex := 119, attributes := #[] }, { accessFlags := 137, nameIndex := 88, descriptorIndex := 108, attributes := #[] }] 1537 103 #[120] #[])
  fields := #[]
  methods := #[k13m0, k13m1, k13m2, k13m3]
  instanceTypes := #[]
  staticTypes := #[]
  resolved := Array.replicate 251 none
  statics := none }

def pool14 : Array CpInfo := pool [(2, .class_ 4), (1, u "java/lang/Object"), (0, u "<init>"), (0, u "()V"), (3, .class_ 11), (0, u "java/util/ImmutableCollections$List12"), (0, .class_ 13), (0, u "java/util/ImmutableCollections$ListN"), (3, u "Z"), (18, u "([Ljava/lang/Object;)Ljava/util/List;"), (0, .methodref 38 39), (0, .class_ 40), (0, .nameAndType 41 42), (0, u "java/util/Objects"), (0, u "requireNonNull"), (0, u "(Ljava/lang/Object;)Ljava/lang/Object;"), (0, .methodref 12 44), (0, .nameAndType 5 45), (0, u "([Ljava/lang/Object;Z)V"), (1, .class_ 49), (1, u "java/util/ImmutableCollections"), (0, u "$assertionsDisabled"), (5, u "[Ljava/lang/Object;"), (5, u "EMPTY_LIST"), (0, u "Ljava/util/ImmutableCollections$ListN;"), (8, u "EMPTY_LIST_NULLS"), (22, u "SALT32L"), (0, u "J"), (2, u "REVERSE"), (6, u "archivedObjects"), (2, u "EMPTY"), (0, u "Ljava/lang/Object;"), (0, .class_ 112), (0, u "java/util/ImmutableCollections$SetN"), (5, u "EMPTY_SET"), (0, u "Ljava/util/ImmutableCollections$SetN;"), (0, .class_ 121), (0, u "java/util/ImmutableCollections$MapN"), (3, u "EMPTY_MAP"), (0, u "Ljava/util/ImmutableCollections$MapN;"), (4, u "EXPAND_FACTOR"), (0, u "I"), (18, u "listFromArray"), (17, .class_ 170), (0, u "java/util/ImmutableCollections$MapN$MapNIterator"), (0, .class_ 172), (0, u "java/util/ImmutableCollections$MapN$1"), (0, .class_ 174), (0, u "java/util/ImmutableCollections$Map1"), (0, .class_ 176), (0, u "java/util/ImmutableCollections$AbstractImmutableMap"), (0, .class_ 178), (0, u "java/util/ImmutableCollections$SetN$SetNIterator"), (0, .class_ 180), (0, u "java/util/ImmutableCollections$Set12"), (0, .class_ 182), (0, u "java/util/ImmutableCollections$Set12$1"), (0, .class_ 184), (0, u "java/util/ImmutableCollections$AbstractImmutableSet"), (0, .class_ 186), (0, u "java/util/ImmutableCollections$SubList"), (0, .class_ 188), (0, u "java/util/ImmutableCollections$ListItr"), (0, .class_ 190), (0, u "java/util/ImmutableCollections$AbstractImmutableList"), (0, .class_ 192), (0, u "java/util/ImmutableCollections$AbstractImmutableCollection"), (0, .class_ 194), (0, u "java/util/ImmutableCollections$Access"), (0, .class_ 196), (0, u "java/util/ImmutableCollections$Access$1")] 16

def k14m0 : Method := { name := "<init>", desc := "()V", sig := { parameters := [], returnType := none }, accessFlags := 2, code := none }
def k14c1 : Code := { maxStack := 4, maxLocals := 3, code := jdk_56_method_4_code, exceptionTable := #[], attributes := #[] }
def k14m1 : Method := { name := "listFromArray", desc := "([Ljava/lang/Object;)Ljava/util/List;", sig := { parameters := [(.array (.object "java/lang/Object"))], returnType := some (.object "java/util/List") }, accessFlags := 136, code := some k14c1 }
/-- java/util/ImmutableCollections -/
def k14 : Class := { plain "java/util/ImmutableCollections" (some 0) with
  accessFlags := 32
  interfaces := #[]
  cf := some (fileOf pool14 47 #[.nestMembers #[120, 169, 171, 173, 175, 111, 177, 179, 181, 183, 12, 10, 185, 187, 189, 191, 193, 195]] #[{ accessFlags := 2, nameIndex := 5, descriptorIndex := 6, attributes := #[] }, { accessFlags := 136, nameIndex := 151, descriptorIndex := 36, attributes := #[] }] 32 2 #[] #[{ accessFlags := 26, nameIndex := 95, descriptorIndex := 96, attributes := #[] }, { accessFlags := 26, nameIndex := 99, descriptorIndex := 17, attributes := #[] }, { accessFlags := 10, nameIndex := 106, descriptorIndex := 56, attributes := #[] }, { accessFlags := 26, nameIndex := 109, descriptorIndex := 110, attributes := #[] }, { accessFlags := 24, nameIndex := 62, descriptorIndex := 63, attributes := #[] }, { accessFlags := 24, nameIndex := 72, descriptorIndex := 63, attributes := #[] }, { accessFlags := 24, nameIndex := 118, descriptorIndex := 119, attributes := #[] }, { accessFlags := 24, nameIndex := 125, descriptorIndex := 126, attributes := #[] }, { accessFlags := 24, nameIndex := 131, descriptorIndex := 132, attributes := #[] }, { accessFlags := 4120, nameIndex := 50, descriptorIndex := 17, attributes := #[] }])
  fields := #[{ name := "SALT32L", type := .long, accessFlags := 26, slot := 0, constantValue := 0 }, { name := "REVERSE", type := .boolean, accessFlags := 26, slot := 1, constantValue := 0 }, { name := "archivedObjects", type := (.array (.object "java/lang/Object")), accessFlags := 10, slot := 2, constantValue := 0 }, { name := "EMPTY", type := (.object "java/lang/Object"), accessFlags := 26, slot := 3, constantValue := 0 }, { name := "EMPTY_LIST", type := (.object "java/util/ImmutableCollections$ListN"), accessFlags := 24, slot := 4, constantValue := 0 }, { name := "EMPTY_LIST_NULLS", type := (.object "java/util/ImmutableCollections$ListN"), accessFlags := 24, slot := 5, constantValue := 0 }, { name := "EMPTY_SET", type := (.object "java/util/ImmutableCollections$SetN"), accessFlags := 24, slot := 6, constantValue := 0 }, { name := "EMPTY_MAP", type := (.object "java/util/ImmutableCollections$MapN"), accessFlags := 24, slot := 7, constantValue := 0 }, { name := "EXPAND_FACTOR", type := .int, accessFlags := 24, slot := 8, constantValue := 0 }, { name := "$assertionsDisabled", type := .boolean, accessFlags := 4120, slot := 9, constantValue := 0 }]
  methods := #[k14m0, k14m1]
  instanceTypes := #[]
  staticTypes := #[.long, .boolean, (.array (.object "java/lang/Object")), (.object "java/lang/Object"), (.object "java/util/ImmutableCollections$ListN"), (.object "java/util/ImmutableCollections$ListN"), (.object "java/util/ImmutableCollections$SetN"), (.object "java/util/ImmutableCollections$MapN"), .int, .boolean]
  resolved := Array.replicate 213 none
  statics := some 1 }

def pool15 : Array CpInfo := pool [(1, .methodref 2 3), (0, .class_ 4), (0, .nameAndType 5 6), (0, u "java/lang/Object"), (0, u "<init>"), (0, u "()V"), (1, .class_ 10), (1, u "java/util/AbstractCollection"), (66, .class_ 78), (0, u "java/util/Collection")] 81

def k15c0 : Code := { maxStack := 1, maxLocals := 1, code := jdk_22_method_1_code, exceptionTable := #[], attributes := #[] }
def k15m0 : Method := { name := "<init>", desc := "()V", sig := { parameters := [], returnType := none }, accessFlags := 4, code := some k15c0 }
/-- java/util/AbstractCollection -/
def k15 : Class := { plain "java/util/AbstractCollection" (some 0) with
  accessFlags := 1057
  interfaces := #[11]
  cf := some (fileOf pool15 8 #[] #[{ accessFlags := 4, nameIndex := 5, descriptorIndex := 6, attributes := #[] }] 1057 2 #[77] #[])
  fields := #[]
  methods := #[k15m0]
  instanceTypes := #[]
  staticTypes := #[]
  resolved := Array.replicate 160 none
  statics := none }

def pool16 : Array CpInfo := pool [(1, .methodref 2 3), (0, .class_ 4), (0, .nameAndType 5 6), (0, u "java/util/AbstractCollection"), (0, u "<init>"), (0, u "()V"), (1, .class_ 10), (1, u "java/util/ImmutableCollections"), (2, .class_ 14), (0, u "java/util/ImmutableCollections$AbstractImmutableCollection")] 41

def k16c0 : Code := { maxStack := 1, maxLocals := 1, code := jdk_47_method_1_code, exceptionTable := #[], attributes := #[] }
def k16m0 : Method := { name := "<init>", desc := "()V", sig := { parameters := [], returnType := none }, accessFlags := 0, code := some k16c0 }
/-- java/util/ImmutableCollections$AbstractImmutableCollection -/
def k16 : Class := { plain "java/util/ImmutableCollections$AbstractImmutableCollection" (some 15) with
  accessFlags := 1056
  interfaces := #[]
  cf := some (fileOf pool16 13 #[.nestHost 8] #[{ accessFlags := 0, nameIndex := 5, descriptorIndex := 6, attributes := #[] }] 1056 2 #[] #[])
  fields := #[]
  methods := #[k16m0]
  instanceTypes := #[]
  staticTypes := #[]
  resolved := Array.replicate 56 none
  statics := none }

def pool17 : Array CpInfo := pool [(1, .class_ 2), (0, u "java/util/RandomAccess"), (0, .class_ 4), (0, u "java/lang/Object")] 2

/-- java/util/RandomAccess -/
def k17 : Class := { plain "java/util/RandomAccess" (some 0) with
  accessFlags := 1537
  interfaces := #[]
  cf := some (fileOf pool17 1 #[] #[] 1537 3 #[] #[])
  fields := #[]
  methods := #[]
  instanceTypes := #[]
  staticTypes := #[]
  resolved := Array.replicate 7 none
  statics := none }

def pool18 : Array CpInfo := pool [(1, .methodref 2 3), (0, .class_ 4), (0, .nameAndType 5 6), (0, u "java/util/ImmutableCollections$AbstractImmutableCollection"), (0, u "<init>"), (0, u "()V"), (1, .class_ 10), (1, u "java/util/ImmutableCollections"), (3, .class_ 16), (1, u "java/util/ImmutableCollections$AbstractImmutableList"), (60, .class_ 78), (0, u "java/util/List"), (45, .class_ 125), (0, u "java/util/RandomAccess")] 70

def k18c0 : Code := { maxStack := 1, maxLocals := 1, code := jdk_46_method_1_code, exceptionTable := #[], attributes := #[] }
def k18m0 : Method := { name := "<init>", desc := "()V", sig := { parameters := [], returnType := none }, accessFlags := 0, code := some k18c0 }
/-- java/util/ImmutableCollections$AbstractImmutableList -/
def k18 : Class := { plain "java/util/ImmutableCollections$AbstractImmutableList" (some 16) with
  accessFlags := 1056
  interfaces := #[13, 17]
  cf := some (fileOf pool18 14 #[.nestHost 8] #[{ accessFlags := 0, nameIndex := 5, descriptorIndex := 6, attributes := #[] }] 1056 2 #[77, 124] #[])
  fields := #[]
  methods := #[k18m0]
  instanceTypes := #[]
  staticTypes := #[]
  resolved := Array.replicate 196 none
  statics := none }

def pool19 : Array CpInfo := pool [(1, .methodref 2 3), (0, .class_ 4), (0, .nameAndType 5 6), (0, u "java/util/ImmutableCollections$AbstractImmutableList"), (0, u "<init>"), (0, u "()V"), (0, .fieldref 8 9), (0, .class_ 10), (0, .nameAndType 11 12), (0, u "java/util/ImmutableCollections$ListN"), (0, u "elements"), (0, u "[Ljava/lang/Object;"), (0, .fieldref 8 14), (0, .nameAndType 15 16), (0, u "allowNulls"), (0, u "Z"), (42, .class_ 60), (0, u "java/io/Serializable"), (4, u "([Ljava/lang/Object;Z)V"), (11, u "size"), (0, u "()I"), (0, u "get"), (0, u "(I)Ljava/lang/Object;"), (33, .class_ 115), (0, u "java/util/ImmutableCollections")] 3

def k19c0 : Code := { maxStack := 2, maxLocals := 3, code := jdk_45_method_1_code, exceptionTable := #[], attributes := #[] }
def k19m0 : Method := { name := "<init>", desc := "([Ljava/lang/Object;Z)V", sig := { parameters := [(.array (.object "java/lang/Object")), .boolean], returnType := none }, accessFlags := 2, code := some k19c0 }
def k19c1 : Code := { maxStack := 1, maxLocals := 1, code := jdk_45_method_3_code, exceptionTable := #[], attributes := #[] }
def k19m1 : Method := { name := "size", desc := "()I", sig := { parameters := [], returnType := some .int }, accessFlags := 1, code := some k19c1 }
def k19c2 : Code := { maxStack := 2, maxLocals := 2, code := jdk_45_method_4_code, exceptionTable := #[], attributes := #[] }
def k19m2 : Method := { name := "get", desc := "(I)Ljava/lang/Object;", sig := { parameters := [.int], returnType := some (.object "java/lang/Object") }, accessFlags := 1, code := some k19c2 }
/-- java/util/ImmutableCollections$ListN -/
def k19 : Class := { plain "java/util/ImmutableCollections$ListN" (some 18) with
  accessFlags := 48
  interfaces := #[2]
  cf := some (fileOf pool19 8 #[.nestHost 114] #[{ accessFlags := 2, nameIndex := 5, descriptorIndex := 65, attributes := #[] }, { accessFlags := 1, nameIndex := 77, descriptorIndex := 78, attributes := #[] }, { accessFlags := 1, nameIndex := 79, descriptorIndex := 80, attributes := #[] }] 48 2 #[59] #[{ accessFlags := 18, nameIndex := 11, descriptorIndex := 12, attributes := #[] }, { accessFlags := 18, nameIndex := 15, descriptorIndex := 16, attributes := #[] }])
  fields := #[{ name := "elements", type := (.array (.object "java/lang/Object")), accessFlags := 18, slot := 0, constantValue := 0 }, { name := "allowNulls", type := .boolean, accessFlags := 18, slot := 1, constantValue := 0 }]
  methods := #[k19m0, k19m1, k19m2]
  instanceTypes := #[(.array (.object "java/lang/Object")), .boolean]
  staticTypes := #[]
  resolved := Array.replicate 119 none
  statics := none }

def pool20 : Array CpInfo := pool [(2, .class_ 4), (1, u "java/lang/Object"), (0, u "<init>"), (0, u "()V"), (35, .class_ 44), (1, u "java/util/Objects"), (0, u "requireNonNull"), (0, u "(Ljava/lang/Object;)Ljava/lang/Object;")] 137

def k20m0 : Method := { name := "<init>", desc := "()V", sig := { parameters := [], returnType := none }, accessFlags := 2, code := none }
def k20c1 : Code := { maxStack := 2, maxLocals := 1, code := jdk_31_method_10_code, exceptionTable := #[], attributes := #[] }
def k20m1 : Method := { name := "requireNonNull", desc := "(Ljava/lang/Object;)Ljava/lang/Object;", sig := { parameters := [(.object "java/lang/Object")], returnType := some (.object "java/lang/Object") }, accessFlags := 9, code := some k20c1 }
/-- java/util/Objects -/
def k20 : Class := { plain "java/util/Objects" (some 0) with
  accessFlags := 49
  interfaces := #[]
  cf := some (fileOf pool20 42 #[] #[{ accessFlags := 2, nameIndex := 5, descriptorIndex := 6, attributes := #[] }, { accessFlags := 9, nameIndex := 45, descriptorIndex := 46, attributes := #[] }] 49 2 #[] #[])
  fields := #[]
  methods := #[k20m0, k20m1]
  instanceTypes := #[]
  staticTypes := #[]
  resolved := Array.replicate 184 none
  statics := none }

def pool21 : Array CpInfo := pool [(1, .methodref 2 3), (0, .class_ 4), (0, .nameAndType 5 6), (0, u "java/util/ImmutableCollections$AbstractImmutableList"), (0, u "<init>"), (0, u "()V"), (0, .methodref 8 9), (0, .class_ 10), (0, .nameAndType 11 12), (0, u "java/util/Objects"), (0, u "requireNonNull"), (0, u "(Ljava/lang/Object;)Ljava/lang/Object;"), (0, .fieldref 14 15), (0, .class_ 16), (0, .nameAndType 17 18), (0, u "java/util/ImmutableCollections$List12"), (0, u "e0"), (0, u "Ljava/lang/Object;"), (0, .fieldref 20 21), (0, .class_ 22), (0, .nameAndType 23 18), (0, u "java/util/ImmutableCollections"), (0, u "EMPTY"), (0, .fieldref 14 25), (0, .nameAndType 26 18), (0, u "e1"), (24, u "size"), (0, u "()I"), (17, .class_ 71), (0, u "java/io/Serializable"), (4, u "(Ljava/lang/Object;)V"), (8, u "(Ljava/lang/Object;Ljava/lang/Object;)V"), (4, u "get"), (0, u "(I)Ljava/lang/Object;")] 33

def k21c0 : Code := { maxStack := 2, maxLocals := 2, code := jdk_44_method_1_code, exceptionTable := #[], attributes := #[] }
def k21m0 : Method := { name := "<init>", desc := "(Ljava/lang/Object;)V", sig := { parameters := [(.object "java/lang/Object")], returnType := none }, accessFlags := 0, code := some k21c0 }
def k21c1 : Code := { maxStack := 2, maxLocals := 3, code := jdk_44_method_2_code, exceptionTable := #[], attributes := #[] }
def k21m1 : Method := { name := "<init>", desc := "(Ljava/lang/Object;Ljava/lang/Object;)V", sig := { parameters := [(.object "java/lang/Object"), (.object "java/lang/Object")], returnType := none }, accessFlags := 0, code := some k21c1 }
def k21c2 : Code := { maxStack := 2, maxLocals := 1, code := jdk_44_method_3_code, exceptionTable := #[], attributes := #[] }
def k21m2 : Method := { name := "size", desc := "()I", sig := { parameters := [], returnType := some .int }, accessFlags := 1, code := some k21c2 }
def k21c3 : Code := { maxStack := 2, maxLocals := 2, code := jdk_44_method_5_code, exceptionTable := #[], attributes := #[] }
def k21m3 : Method := { name := "get", desc := "(I)Ljava/lang/Object;", sig := { parameters := [.int], returnType := some (.object "java/lang/Object") }, accessFlags := 1, code := some k21c3 }
/-- java/util/ImmutableCollections$List12 -/
def k21 : Class := { plain "java/util/ImmutableCollections$List12" (some 18) with
  accessFlags := 48
  interfaces := #[2]
  cf := some (fileOf pool21 14 #[.nestHost 20] #[{ accessFlags := 0, nameIndex := 5, descriptorIndex := 76, attributes := #[] }, { accessFlags := 0, nameIndex := 5, descriptorIndex := 85, attributes := #[] }, { accessFlags := 1, nameIndex := 51, descriptorIndex := 52, attributes := #[] }, { accessFlags := 1, nameIndex := 90, descriptorIndex := 91, attributes := #[] }] 48 2 #[70] #[{ accessFlags := 18, nameIndex := 17, descriptorIndex := 18, attributes := #[] }, { accessFlags := 18, nameIndex := 26, descriptorIndex := 18, attributes := #[] }])
  fields := #[{ name := "e0", type := (.object "java/lang/Object"), accessFlags := 18, slot := 0, constantValue := 0 }, { name := "e1", type := (.object "java/lang/Object"), accessFlags := 18, slot := 1, constantValue := 0 }]
  methods := #[k21m0, k21m1, k21m2, k21m3]
  instanceTypes := #[(.object "java/lang/Object"), (.object "java/lang/Object")]
  staticTypes := #[]
  resolved := Array.replicate 125 none
  statics := none }

def pool22 : Array CpInfo := pool [(4, .class_ 6), (1, u "java/lang/Object"), (0, u "<init>"), (0, u "()V"), (5, .class_ 16), (1, u "java/lang/StringLatin1"), (104, u "$assertionsDisabled"), (0, u "Z"), (98, .class_ 223), (1, u "java/lang/StringLatin1$LinesSpliterator"), (166, .class_ 391), (0, u "java/lang/StringLatin1$CharsSpliterator")] 3

def k22m0 : Method := { name := "<init>", desc := "()V", sig := { parameters := [], returnType := none }, accessFlags := 0, code := none }
/-- java/lang/StringLatin1 -/
def k22 : Class := { plain "java/lang/StringLatin1" (some 0) with
  accessFlags := 48
  interfaces := #[]
  cf := some (fileOf pool22 14 #[.nestMembers #[390, 221]] #[{ accessFlags := 0, nameIndex := 7, descriptorIndex := 8, attributes := #[] }] 48 4 #[] #[{ accessFlags := 4120, nameIndex := 121, descriptorIndex := 122, attributes := #[] }])
  fields := #[{ name := "$assertionsDisabled", type := .boolean, accessFlags := 4120, slot := 0, constantValue := 0 }]
  methods := #[k22m0]
  instanceTypes := #[]
  staticTypes := #[.boolean]
  resolved := Array.replicate 395 none
  statics := none }

def pool23 : Array CpInfo := pool [(2, .class_ 4), (1, u "java/lang/Object"), (0, u "<init>"), (0, u "()V"), (17, .class_ 26), (1, u "jdk/internal/util/Preconditions"), (28, .class_ 56), (0, u "jdk/internal/util/Preconditions$4"), (57, .class_ 115), (0, u "jdk/internal/util/Preconditions$1"), (7, u "SIOOBE_FORMATTER"), (0, u "Ljava/util/function/BiFunction;"), (0, .class_ 126), (0, u "jdk/internal/util/Preconditions$2"), (3, u "AIOOBE_FORMATTER"), (0, .class_ 132), (0, u "jdk/internal/util/Preconditions$3"), (3, u "IOOBE_FORMATTER")] 57

def k23m0 : Method := { name := "<init>", desc := "()V", sig := { parameters := [], returnType := none }, accessFlags := 1, code := none }
/-- jdk/internal/util/Preconditions -/
def k23 : Class := { plain "jdk/internal/util/Preconditions" (some 0) with
  accessFlags := 33
  interfaces := #[]
  cf := some (fileOf pool23 24 #[.nestMembers #[55, 131, 125, 114]] #[{ accessFlags := 1, nameIndex := 5, descriptorIndex := 6, attributes := #[] }] 33 2 #[] #[{ accessFlags := 25, nameIndex := 123, descriptorIndex := 124, attributes := #[] }, { accessFlags := 25, nameIndex := 130, descriptorIndex := 124, attributes := #[] }, { accessFlags := 25, nameIndex := 136, descriptorIndex := 124, attributes := #[] }])
  fields := #[{ name := "SIOOBE_FORMATTER", type := (.object "java/util/function/BiFunction"), accessFlags := 25, slot := 0, constantValue := 0 }, { name := "AIOOBE_FORMATTER", type := (.object "java/util/function/BiFunction"), accessFlags := 25, slot := 1, constantValue := 0 }, { name := "IOOBE_FORMATTER", type := (.object "java/util/function/BiFunction"), accessFlags := 25, slot := 2, constantValue := 0 }]
  methods := #[k23m0]
  instanceTypes := #[]
  staticTypes := #[(.object "java/util/function/BiFunction"), (.object "java/util/function/BiFunction"), (.object "java/util/function/BiFunction")]
  resolved := Array.replicate 194 none
  statics := some 2 }

def pool24 : Array CpInfo := pool [(9, u "<init>"), (6, .class_ 18), (1, u "java/lang/Object"), (0, u "()V"), (1, .class_ 23), (1, u "jdk/internal/util/ArraysSupport"), (0, u "LOG2_ARRAY_LONG_INDEX_SCALE"), (0, u "I"), (2, u "U"), (0, u "Ljdk/internal/misc/Unsafe;"), (8, u "BIG_ENDIAN"), (0, u "Z"), (8, u "LOG2_BYTE_BIT_SIZE"), (4, u "LOG2_ARRAY_INT_INDEX_SCALE"), (54, u "JLA"), (0, u "Ljdk/internal/access/JavaLangAccess;"), (11, u "LOG2_ARRAY_BOOLEAN_INDEX_SCALE"), (9, u "LOG2_ARRAY_BYTE_INDEX_SCALE"), (5, u "LOG2_ARRAY_CHAR_INDEX_SCALE"), (5, u "LOG2_ARRAY_SHORT_INDEX_SCALE"), (18, u "LOG2_ARRAY_FLOAT_INDEX_SCALE"), (24, u "LOG2_ARRAY_DOUBLE_INDEX_SCALE"), (89, u "T_BOOLEAN"), (2, u "T_CHAR"), (1, u "T_FLOAT"), (1, u "T_DOUBLE"), (1, u "T_BYTE"), (1, u "T_SHORT"), (1, u "T_INT"), (1, u "T_LONG"), (1, u "SOFT_MAX_ARRAY_LENGTH")] 83

def k24m0 : Method := { name := "<init>", desc := "()V", sig := { parameters := [], returnType := none }, accessFlags := 2, code := none }
/-- jdk/internal/util/ArraysSupport -/
def k24 : Class := { plain "jdk/internal/util/ArraysSupport" (some 0) with
  accessFlags := 33
  interfaces := #[]
  cf := some (fileOf pool24 21 #[] #[{ accessFlags := 2, nameIndex := 9, descriptorIndex := 19, attributes := #[] }] 33 16 #[] #[{ accessFlags := 24, nameIndex := 28, descriptorIndex := 29, attributes := #[] }, { accessFlags := 26, nameIndex := 38, descriptorIndex := 39, attributes := #[] }, { accessFlags := 25, nameIndex := 121, descriptorIndex := 25, attributes := #[] }, { accessFlags := 25, nameIndex := 131, descriptorIndex := 25, attributes := #[] }, { accessFlags := 25, nameIndex := 137, descriptorIndex := 25, attributes := #[] }, { accessFlags := 25, nameIndex := 143, descriptorIndex := 25, attributes := #[] }, { accessFlags := 25, nameIndex := 53, descriptorIndex := 25, attributes := #[] }, { accessFlags := 25, nameIndex := 24, descriptorIndex := 25, attributes := #[] }, { accessFlags := 25, nameIndex := 162, descriptorIndex := 25, attributes := #[] }, { accessFlags := 25, nameIndex := 187, descriptorIndex := 25, attributes := #[] }, { accessFlags := 26, nameIndex := 48, descriptorIndex := 25, attributes := #[] }, { accessFlags := 25, nameIndex := 277, descriptorIndex := 25, attributes := #[] }, { accessFlags := 25, nameIndex := 280, descriptorIndex := 25, attributes := #[] }, { accessFlags := 25, nameIndex := 282, descriptorIndex := 25, attributes := #[] }, { accessFlags := 25, nameIndex := 284, descriptorIndex := 25, attributes := #[] }, { accessFlags := 25, nameIndex := 286, descriptorIndex := 25, attributes := #[] }, { accessFlags := 25, nameIndex := 288, descriptorIndex := 25, attributes := #[] }, { accessFlags := 25, nameIndex := 290, descriptorIndex := 25, attributes := #[] }, { accessFlags := 25, nameIndex := 292, descriptorIndex := 25, attributes := #[] }, { accessFlags := 26, nameIndex := 108, descriptorIndex := 109, attributes := #[] }, { accessFlags := 25, nameIndex := 294, descriptorIndex := 25, attributes := #[] }])
  fields := #[{ name := "U", type := (.object "jdk/internal/misc/Unsafe"), accessFlags := 24, slot := 0, constantValue := 0 }, { name := "BIG_ENDIAN", type := .boolean, accessFlags := 26, slot := 1, constantValue := 0 }, { name := "LOG2_ARRAY_BOOLEAN_INDEX_SCALE", type := .int, accessFlags := 25, slot := 2, constantValue := 0 }, { name := "LOG2_ARRAY_BYTE_INDEX_SCALE", type := .int, accessFlags := 25, slot := 3, constantValue := 0 }, { name := "LOG2_ARRAY_CHAR_INDEX_SCALE", type := .int, accessFlags := 25, slot := 4, constantValue := 0 }, { name := "LOG2_ARRAY_SHORT_INDEX_SCALE", type := .int, accessFlags := 25, slot := 5, constantValue := 0 }, { name := "LOG2_ARRAY_INT_INDEX_SCALE", type := .int, accessFlags := 25, slot := 6, constantValue := 0 }, { name := "LOG2_ARRAY_LONG_INDEX_SCALE", type := .int, accessFlags := 25, slot := 7, constantValue := 0 }, { name := "LOG2_ARRAY_FLOAT_INDEX_SCALE", type := .int, accessFlags := 25, slot := 8, constantValue := 0 }, { name := "LOG2_ARRAY_DOUBLE_INDEX_SCALE", type := .int, accessFlags := 25, slot := 9, constantValue := 0 }, { name := "LOG2_BYTE_BIT_SIZE", type := .int, accessFlags := 26, slot := 10, constantValue := 0 }, { name := "T_BOOLEAN", type := .int, accessFlags := 25, slot := 11, constantValue := 0 }, { name := "T_CHAR", type := .int, accessFlags := 25, slot := 12, constantValue := 0 }, { name := "T_FLOAT", type := .int, accessFlags := 25, slot := 13, constantValue := 0 }, { name := "T_DOUBLE", type := .int, accessFlags := 25, slot := 14, constantValue := 0 }, { name := "T_BYTE", type := .int, accessFlags := 25, slot := 15, constantValue := 0 }, { name := "T_SHORT", type := .int, accessFlags := 25, slot := 16, constantValue := 0 }, { name := "T_INT", type := .int, accessFlags := 25, slot := 17, constantValue := 0 }, { name := "T_LONG", type := .int, accessFlags := 25, slot := 18, constantValue := 0 }, { name := "JLA", type := (.object "jdk/internal/access/JavaLangAccess"), accessFlags := 26, slot := 19, constantValue := 0 }, { name := "SOFT_MAX_ARRAY_LENGTH", type := .int, accessFlags := 25, slot := 20, constantValue := 0 }]
  methods := #[k24m0]
  instanceTypes := #[]
  staticTypes := #[(.object "jdk/internal/misc/Unsafe"), .boolean, .int, .int, .int, .int, .int, .int, .int, .int, .int, .int, .int, .int, .int, .int, .int, .int, .int, (.object "jdk/internal/access/JavaLangAccess"), .int]
  resolved := Array.replicate 378 none
  statics := none }

def pool25 : Array CpInfo := pool [(1, u "java/lang/Cloneable"), (0, .class_ 1), (0, u "java/lang/Object"), (0, .class_ 3)] 3

/-- java/lang/Cloneable -/
def k25 : Class := { plain "java/lang/Cloneable" (some 0) with
  accessFlags := 1537
  interfaces := #[]
  cf := some (fileOf pool25 2 #[] #[] 1537 4 #[] #[])
  fields := #[]
  methods := #[]
  instanceTypes := #[]
  staticTypes := #[]
  resolved := Array.replicate 8 none
  statics := none }

/-- the primitive byte -/
def k26 : Class := { plain "byte" none with kind := .primitive 'B', accessFlags := 0x411 }
/-- [B -/
def k27 : Class := { plain "[B" (some 0) with kind := .array 26 .byte, interfaces := #[25, 2], accessFlags := 1041 }

/-- the primitive char -/
def k28 : Class := { plain "char" none with kind := .primitive 'C', accessFlags := 0x411 }
/-- [C -/
def k29 : Class := { plain "[C" (some 0) with kind := .array 28 .char, interfaces := #[25, 2], accessFlags := 1041 }

/-- the primitive int -/
def k30 : Class := { plain "int" none with kind := .primitive 'I', accessFlags := 0x411 }
/-- [I -/
def k31 : Class := { plain "[I" (some 0) with kind := .array 30 .int, interfaces := #[25, 2], accessFlags := 1041 }

/-- [Ljava/lang/Object; -/
def k32 : Class := { plain "[Ljava/lang/Object;" (some 0) with kind := .array 0 (.object "java/lang/Object"), interfaces := #[25, 2], accessFlags := 1041 }

/-- [Ljava/lang/String; -/
def k33 : Class := { plain "[Ljava/lang/String;" (some 0) with kind := .array 7 (.object "java/lang/String"), interfaces := #[25, 2], accessFlags := 1041 }

def heap : Heap := #[{ cls := 7, slots := #[.long 0, .int 1, .null, .int 0, .null, .int 0, .int 0], vm := .statics 7 },
  { cls := 14, slots := #[.long 0, .int 0, .null, .ref 5, .ref 4, .null, .null, .null, .int 0, .int 1], vm := .statics 14 },
  { cls := 23, slots := #[.null, .null, .null], vm := .statics 23 },
  { cls := 32, slots := #[], vm := .none },
  { cls := 19, slots := #[.ref 3, .int 0], vm := .none },
  { cls := 0, slots := #[], vm := .none }]
def classes : Array Class := #[k0, k1, k2, k3, k4, k5, k6, k7, k8, k9, k10, k11, k12, k13, k14, k15, k16, k17, k18, k19, k20, k21, k22, k23, k24, k25, k26, k27, k28, k29, k30, k31, k32, k33]
def interned : List (Array UInt16 × Addr) := []
def slotsUsed : Nat := 22
def theMethod : MethodId := ⟨1, 1⟩
def args0 : Array Value := #[.int 2, .int 1021, .int 1022, .int 9]
def aboutOver (below : List Frame) : State where
  vm := { classes := classes, interned := interned.toArray }
  heap := heap
  slotsUsed := slotsUsed
  threads := #[{ frames := .invoking theMethod args0 :: below }]
def below0 : List Frame := [.native { method := ⟨0, 0⟩, args := #[] }]
def about1 : State := aboutOver below0
def p0 : Program := .bare "" "" ""
def e0 : Env := launch0.env 0 0 0
theorem w_frames : about1.frames = Frame.invoking theMethod args0 :: below0 := rfl
set_option maxRecDepth 65536 in
theorem w_args : argsFit about1.vm theMethod args0 = true := by decide +kernel
set_option maxRecDepth 65536 in
theorem w_heap : heapFits about1 = true := by decide +kernel
set_option maxRecDepth 65536 in
theorem w_runnable : about1.curStatus? = some .runnable := by decide +kernel
set_option maxRecDepth 65536 in
theorem w_alone : about1.alone = true := by decide +kernel
set_option maxRecDepth 65536 in
theorem w_named : about1.methodNamed? x = some theMethod := by decide +kernel
set_option maxRecDepth 65536 in
theorem w_hears : about1.hears theMethod below0 = true := by decide +kernel
set_option maxRecDepth 65536 in
theorem w_ripe : about1.ripe theMethod args0 below0 = true := by decide +kernel
theorem w_running : about1.status = .running := rfl
set_option maxRecDepth 65536 in
theorem w_room : about1.hasRoom e0.platform room_1 = true :=
  launch0.hasRoom_least _ room_1 (by decide +kernel) (by decide +kernel) (by decide +kernel) (by decide +kernel) (by decide +kernel) (by decide +kernel)
theorem allAtoms_all (ts : List Jvm.Cond) (a : Array Jvm.Value) (st : Jvm.State) : (allAtoms ts).before a st = ts.all (fun c => c.before a st) := by
  induction ts with
  | nil => rfl
  | cons c t ih =>
    show (Jvm.Cond.and c (allAtoms t)).before a st = _
    rw [Jvm.Cond.before_and, ih, List.all_cons]
def words1 : List Jvm.Cond := Jvm.Cond.code x code maxLocals ret :: tables_1
/-- a 'code' word, met by the world's own term for the bytes: nothing is compared byte by byte -/
theorem code_word {y : MethodName} {bytes : ByteArray} {mx : Nat} {rt : Option FieldType} {a : Array Value} {s : State} {m : MethodId} {meth : Method} {c : Code} (h1 : s.methodNamed? y = some m) (h2 : s.vm.method? m = some meth) (h3 : meth.code = some c) (h4 : c.code = bytes)
    (h5 : (c.maxLocals == mx && c.exceptionTable.isEmpty && decide (c.maxStack ≤ mostOperands) && decide (meth.sig.returnType = rt) && !meth.locks && decide (parseMethodDescriptor y.desc = some meth.sig)) = true) : (Jvm.Cond.code y bytes mx rt).before a s = true := by
  simp only [Bool.and_eq_true, beq_iff_eq, Bool.not_eq_true', decide_eq_true_eq] at h5
  obtain ⟨⟨⟨⟨⟨g1, g2⟩, g3⟩, g4⟩, g5⟩, g6⟩ := h5
  simp [Cond.before, Cond.holds, Cond.value, h1, h2, h3, h4, g1, g2, g3, g4, g5, g6]
def isCode : Jvm.Cond → Bool
  | .code _ _ _ _ => true
  | _ => false
theorem all_split {L : List Jvm.Cond} {P : Jvm.Cond → Bool} (h1 : L.all (fun c => isCode c || P c) = true) (h2 : ∀ c ∈ L.filter isCode, P c = true) : L.all P = true := by
  refine List.all_eq_true.mpr fun c hc => ?_
  have h := List.all_eq_true.mp h1 c hc
  rcases Bool.eq_false_or_eq_true (isCode c) with hi | hi
  · exact h2 c (List.mem_filter.mpr ⟨hc, hi⟩)
  · simpa [hi] using h
set_option maxRecDepth 65536 in
theorem w_c0 : (Jvm.Cond.code x code maxLocals ret).before args0 about1 = true := code_word (m := ⟨1, 1⟩) (meth := k1m1) (c := k1c1) (by decide +kernel) rfl rfl rfl (by decide +kernel)
set_option maxRecDepth 65536 in
theorem w_c1 : (Jvm.Cond.code ({ cls := "com/example/saasy/saasy/ledger/SchemaStepOfPinLaw", name := "str", desc := "(I)Ljava/lang/String;" } : Jvm.MethodName) method_3_code (5 : Nat) (Option.some (Jvm.ClassFile.FieldType.object "java/lang/String"))).before args0 about1 = true := code_word (m := ⟨1, 2⟩) (meth := k1m2) (c := k1c2) (by decide +kernel) rfl rfl rfl (by decide +kernel)
set_option maxRecDepth 65536 in
theorem w_c2 : (Jvm.Cond.code ({ cls := "java/lang/String", name := "<init>", desc := "([C)V" } : Jvm.MethodName) jdk_42_method_3_code (2 : Nat) (Option.none : Option Jvm.ClassFile.FieldType)).before args0 about1 = true := code_word (m := ⟨7, 1⟩) (meth := k7m1) (c := k7c1) (by decide +kernel) rfl rfl rfl (by decide +kernel)
set_option maxRecDepth 65536 in
theorem w_c3 : (Jvm.Cond.code ({ cls := "java/lang/String", name := "<init>", desc := "([CIILjava/lang/Void;)V" } : Jvm.MethodName) jdk_42_method_149_code (6 : Nat) (Option.none : Option Jvm.ClassFile.FieldType)).before args0 about1 = true := code_word (m := ⟨7, 3⟩) (meth := k7m3) (c := k7c3) (by decide +kernel) rfl rfl rfl (by decide +kernel)
set_option maxRecDepth 65536 in
theorem w_c4 : (Jvm.Cond.code ({ cls := "java/lang/Object", name := "<init>", desc := "()V" } : Jvm.MethodName) object_method_1_code (1 : Nat) (Option.none : Option Jvm.ClassFile.FieldType)).before args0 about1 = true := code_word (m := ⟨0, 0⟩) (meth := k0m0) (c := k0c0) (by decide +kernel) rfl rfl rfl (by decide +kernel)
set_option maxRecDepth 65536 in
theorem w_c5 : (Jvm.Cond.code ({ cls := "java/lang/StringUTF16", name := "compress", desc := "([CII)[B" } : Jvm.MethodName) jdk_52_method_16_code (6 : Nat) (Option.some (Jvm.ClassFile.FieldType.array Jvm.ClassFile.FieldType.byte))).before args0 about1 = true := code_word (m := ⟨8, 2⟩) (meth := k8m2) (c := k8c2) (by decide +kernel) rfl rfl rfl (by decide +kernel)
set_option maxRecDepth 65536 in
theorem w_c6 : (Jvm.Cond.code ({ cls := "java/lang/StringUTF16", name := "compress", desc := "([CI[BII)I" } : Jvm.MethodName) jdk_52_method_21_code (7 : Nat) (Option.some Jvm.ClassFile.FieldType.int)).before args0 about1 = true := code_word (m := ⟨8, 3⟩) (meth := k8m3) (c := k8c3) (by decide +kernel) rfl rfl rfl (by decide +kernel)
set_option maxRecDepth 65536 in
theorem w_c7 : (Jvm.Cond.code ({ cls := "java/lang/StringUTF16", name := "coderFromArrayLen", desc := "([BI)B" } : Jvm.MethodName) jdk_52_method_15_code (2 : Nat) (Option.some Jvm.ClassFile.FieldType.byte)).before args0 about1 = true := code_word (m := ⟨8, 1⟩) (meth := k8m1) (c := k8c1) (by decide +kernel) rfl rfl rfl (by decide +kernel)
set_option maxRecDepth 65536 in
theorem w_c8 : (Jvm.Cond.code ({ cls := "com/example/saasy/saasy/ledger/SchemaStep", name := "of", desc := "([Ljava/lang/String;)Lcom/example/saasy/saasy/ledger/SchemaStep;" } : Jvm.MethodName) prog_16_method_2_code (1 : Nat) (Option.some (Jvm.ClassFile.FieldType.object "com/example/saasy/saasy/ledger/SchemaStep"))).before args0 about1 = true := code_word (m := ⟨9, 1⟩) (meth := k9m1) (c := k9c1) (by decide +kernel) rfl rfl rfl (by decide +kernel)
set_option maxRecDepth 65536 in
theorem w_c9 : (Jvm.Cond.code ({ cls := "java/util/List", name := "of", desc := "()Ljava/util/List;" } : Jvm.MethodName) jdk_40_method_36_code (0 : Nat) (Option.some (Jvm.ClassFile.FieldType.object "java/util/List"))).before args0 about1 = true := code_word (m := ⟨13, 2⟩) (meth := k13m2) (c := k13c2) (by decide +kernel) rfl rfl rfl (by decide +kernel)
set_option maxRecDepth 65536 in
theorem w_c10 : (Jvm.Cond.code ({ cls := "java/util/List", name := "of", desc := "([Ljava/lang/Object;)Ljava/util/List;" } : Jvm.MethodName) jdk_40_method_47_code (2 : Nat) (Option.some (Jvm.ClassFile.FieldType.object "java/util/List"))).before args0 about1 = true := code_word (m := ⟨13, 3⟩) (meth := k13m3) (c := k13c3) (by decide +kernel) rfl rfl rfl (by decide +kernel)
set_option maxRecDepth 65536 in
theorem w_c11 : (Jvm.Cond.code ({ cls := "com/example/saasy/saasy/ledger/SchemaStep", name := "<init>", desc := "(Ljava/util/List;Ljava/util/List;)V" } : Jvm.MethodName) prog_16_method_1_code (3 : Nat) (Option.none : Option Jvm.ClassFile.FieldType)).before args0 about1 = true := code_word (m := ⟨9, 0⟩) (meth := k9m0) (c := k9c0) (by decide +kernel) rfl rfl rfl (by decide +kernel)
set_option maxRecDepth 65536 in
theorem w_c12 : (Jvm.Cond.code ({ cls := "com/example/saasy/saasy/ledger/SchemaStep", name := "statements", desc := "()Ljava/util/List;" } : Jvm.MethodName) prog_16_method_4_code (1 : Nat) (Option.some (Jvm.ClassFile.FieldType.object "java/util/List"))).before args0 about1 = true := code_word (m := ⟨9, 2⟩) (meth := k9m2) (c := k9c2) (by decide +kernel) rfl rfl rfl (by decide +kernel)
set_option maxRecDepth 65536 in
theorem w_c13 : (Jvm.Cond.code ({ cls := "com/example/saasy/saasy/ledger/SchemaStep", name := "rewritten", desc := "()Ljava/util/List;" } : Jvm.MethodName) prog_16_method_5_code (1 : Nat) (Option.some (Jvm.ClassFile.FieldType.object "java/util/List"))).before args0 about1 = true := code_word (m := ⟨9, 3⟩) (meth := k9m3) (c := k9c3) (by decide +kernel) rfl rfl rfl (by decide +kernel)
set_option maxRecDepth 65536 in
theorem w_c14 : (Jvm.Cond.code ({ cls := "java/util/ImmutableCollections$ListN", name := "size", desc := "()I" } : Jvm.MethodName) jdk_45_method_3_code (1 : Nat) (Option.some Jvm.ClassFile.FieldType.int)).before args0 about1 = true := code_word (m := ⟨19, 1⟩) (meth := k19m1) (c := k19c1) (by decide +kernel) rfl rfl rfl (by decide +kernel)
set_option maxRecDepth 65536 in
theorem w_c15 : (Jvm.Cond.code ({ cls := "java/util/ImmutableCollections", name := "listFromArray", desc := "([Ljava/lang/Object;)Ljava/util/List;" } : Jvm.MethodName) jdk_56_method_4_code (3 : Nat) (Option.some (Jvm.ClassFile.FieldType.object "java/util/List"))).before args0 about1 = true := code_word (m := ⟨14, 1⟩) (meth := k14m1) (c := k14c1) (by decide +kernel) rfl rfl rfl (by decide +kernel)
set_option maxRecDepth 65536 in
theorem w_c16 : (Jvm.Cond.code ({ cls := "java/util/Objects", name := "requireNonNull", desc := "(Ljava/lang/Object;)Ljava/lang/Object;" } : Jvm.MethodName) jdk_31_method_10_code (1 : Nat) (Option.some (Jvm.ClassFile.FieldType.object "java/lang/Object"))).before args0 about1 = true := code_word (m := ⟨20, 1⟩) (meth := k20m1) (c := k20c1) (by decide +kernel) rfl rfl rfl (by decide +kernel)
set_option maxRecDepth 65536 in
theorem w_c17 : (Jvm.Cond.code ({ cls := "java/util/ImmutableCollections$ListN", name := "<init>", desc := "([Ljava/lang/Object;Z)V" } : Jvm.MethodName) jdk_45_method_1_code (3 : Nat) (Option.none : Option Jvm.ClassFile.FieldType)).before args0 about1 = true := code_word (m := ⟨19, 0⟩) (meth := k19m0) (c := k19c0) (by decide +kernel) rfl rfl rfl (by decide +kernel)
set_option maxRecDepth 65536 in
theorem w_c18 : (Jvm.Cond.code ({ cls := "java/util/ImmutableCollections$AbstractImmutableList", name := "<init>", desc := "()V" } : Jvm.MethodName) jdk_46_method_1_code (1 : Nat) (Option.none : Option Jvm.ClassFile.FieldType)).before args0 about1 = true := code_word (m := ⟨18, 0⟩) (meth := k18m0) (c := k18c0) (by decide +kernel) rfl rfl rfl (by decide +kernel)
set_option maxRecDepth 65536 in
theorem w_c19 : (Jvm.Cond.code ({ cls := "java/util/ImmutableCollections$AbstractImmutableCollection", name := "<init>", desc := "()V" } : Jvm.MethodName) jdk_47_method_1_code (1 : Nat) (Option.none : Option Jvm.ClassFile.FieldType)).before args0 about1 = true := code_word (m := ⟨16, 0⟩) (meth := k16m0) (c := k16c0) (by decide +kernel) rfl rfl rfl (by decide +kernel)
set_option maxRecDepth 65536 in
theorem w_c20 : (Jvm.Cond.code ({ cls := "java/util/AbstractCollection", name := "<init>", desc := "()V" } : Jvm.MethodName) jdk_22_method_1_code (1 : Nat) (Option.none : Option Jvm.ClassFile.FieldType)).before args0 about1 = true := code_word (m := ⟨15, 0⟩) (meth := k15m0) (c := k15c0) (by decide +kernel) rfl rfl rfl (by decide +kernel)
set_option maxRecDepth 65536 in
theorem w_c21 : (Jvm.Cond.code ({ cls := "java/util/ImmutableCollections$ListN", name := "get", desc := "(I)Ljava/lang/Object;" } : Jvm.MethodName) jdk_45_method_4_code (2 : Nat) (Option.some (Jvm.ClassFile.FieldType.object "java/lang/Object"))).before args0 about1 = true := code_word (m := ⟨19, 2⟩) (meth := k19m2) (c := k19c2) (by decide +kernel) rfl rfl rfl (by decide +kernel)
set_option maxRecDepth 65536 in
theorem w_c22 : (Jvm.Cond.code ({ cls := "java/lang/String", name := "equals", desc := "(Ljava/lang/Object;)Z" } : Jvm.MethodName) jdk_42_method_66_code (3 : Nat) (Option.some Jvm.ClassFile.FieldType.boolean)).before args0 about1 = true := code_word (m := ⟨7, 2⟩) (meth := k7m2) (c := k7c2) (by decide +kernel) rfl rfl rfl (by decide +kernel)
set_option maxRecDepth 65536 in
theorem w_c23 : (Jvm.Cond.code ({ cls := "java/util/ImmutableCollections$List12", name := "<init>", desc := "(Ljava/lang/Object;Ljava/lang/Object;)V" } : Jvm.MethodName) jdk_44_method_2_code (3 : Nat) (Option.none : Option Jvm.ClassFile.FieldType)).before args0 about1 = true := code_word (m := ⟨21, 1⟩) (meth := k21m1) (c := k21c1) (by decide +kernel) rfl rfl rfl (by decide +kernel)
set_option maxRecDepth 65536 in
theorem w_c24 : (Jvm.Cond.code ({ cls := "java/util/ImmutableCollections$List12", name := "size", desc := "()I" } : Jvm.MethodName) jdk_44_method_3_code (1 : Nat) (Option.some Jvm.ClassFile.FieldType.int)).before args0 about1 = true := code_word (m := ⟨21, 2⟩) (meth := k21m2) (c := k21c2) (by decide +kernel) rfl rfl rfl (by decide +kernel)
set_option maxRecDepth 65536 in
theorem w_c25 : (Jvm.Cond.code ({ cls := "java/util/ImmutableCollections$List12", name := "get", desc := "(I)Ljava/lang/Object;" } : Jvm.MethodName) jdk_44_method_5_code (2 : Nat) (Option.some (Jvm.ClassFile.FieldType.object "java/lang/Object"))).before args0 about1 = true := code_word (m := ⟨21, 3⟩) (meth := k21m3) (c := k21c3) (by decide +kernel) rfl rfl rfl (by decide +kernel)
set_option maxRecDepth 65536 in
theorem w_c26 : (Jvm.Cond.code ({ cls := "java/util/ImmutableCollections$List12", name := "<init>", desc := "(Ljava/lang/Object;)V" } : Jvm.MethodName) jdk_44_method_1_code (2 : Nat) (Option.none : Option Jvm.ClassFile.FieldType)).before args0 about1 = true := code_word (m := ⟨21, 0⟩) (meth := k21m0) (c := k21c0) (by decide +kernel) rfl rfl rfl (by decide +kernel)
def codes1 : List Jvm.Cond := [Jvm.Cond.code x code maxLocals ret, Jvm.Cond.code ({ cls := "com/example/saasy/saasy/ledger/SchemaStepOfPinLaw", name := "str", desc := "(I)Ljava/lang/String;" } : Jvm.MethodName) method_3_code (5 : Nat) (Option.some (Jvm.ClassFile.FieldType.object "java/lang/String")), Jvm.Cond.code ({ cls := "java/lang/String", name := "<init>", desc := "([C)V" } : Jvm.MethodName) jdk_42_method_3_code (2 : Nat) (Option.none : Option Jvm.ClassFile.FieldType), Jvm.Cond.code ({ cls := "java/lang/String", name := "<init>", desc := "([CIILjava/lang/Void;)V" } : Jvm.MethodName) jdk_42_method_149_code (6 : Nat) (Option.none : Option Jvm.ClassFile.FieldType), Jvm.Cond.code ({ cls := "java/lang/Object", name := "<init>", desc := "()V" } : Jvm.MethodName) object_method_1_code (1 : Nat) (Option.none : Option Jvm.ClassFile.FieldType), Jvm.Cond.code ({ cls := "java/lang/StringUTF16", name := "compress", desc := "([CII)[B" } : Jvm.MethodName) jdk_52_method_16_code (6 : Nat) (Option.some (Jvm.ClassFile.FieldType.array Jvm.ClassFile.FieldType.byte)), Jvm.Cond.code ({ cls := "java/lang/StringUTF16", name := "compress", desc := "([CI[BII)I" } : Jvm.MethodName) jdk_52_method_21_code (7 : Nat) (Option.some Jvm.ClassFile.FieldType.int), Jvm.Cond.code ({ cls := "java/lang/StringUTF16", name := "coderFromArrayLen", desc := "([BI)B" } : Jvm.MethodName) jdk_52_method_15_code (2 : Nat) (Option.some Jvm.ClassFile.FieldType.byte), Jvm.Cond.code ({ cls := "com/example/saasy/saasy/ledger/SchemaStep", name := "of", desc := "([Ljava/lang/String;)Lcom/example/saasy/saasy/ledger/SchemaStep;" } : Jvm.MethodName) prog_16_method_2_code (1 : Nat) (Option.some (Jvm.ClassFile.FieldType.object "com/example/saasy/saasy/ledger/SchemaStep")), Jvm.Cond.code ({ cls := "java/util/List", name := "of", desc := "()Ljava/util/List;" } : Jvm.MethodName) jdk_40_method_36_code (0 : Nat) (Option.some (Jvm.ClassFile.FieldType.object "java/util/List")), Jvm.Cond.code ({ cls := "java/util/List", name := "of", desc := "([Ljava/lang/Object;)Ljava/util/List;" } : Jvm.MethodName) jdk_40_method_47_code (2 : Nat) (Option.some (Jvm.ClassFile.FieldType.object "java/util/List")), Jvm.Cond.code ({ cls := "com/example/saasy/saasy/ledger/SchemaStep", name := "<init>", desc := "(Ljava/util/List;Ljava/util/List;)V" } : Jvm.MethodName) prog_16_method_1_code (3 : Nat) (Option.none : Option Jvm.ClassFile.FieldType), Jvm.Cond.code ({ cls := "com/example/saasy/saasy/ledger/SchemaStep", name := "statements", desc := "()Ljava/util/List;" } : Jvm.MethodName) prog_16_method_4_code (1 : Nat) (Option.some (Jvm.ClassFile.FieldType.object "java/util/List")), Jvm.Cond.code ({ cls := "com/example/saasy/saasy/ledger/SchemaStep", name := "rewritten", desc := "()Ljava/util/List;" } : Jvm.MethodName) prog_16_method_5_code (1 : Nat) (Option.some (Jvm.ClassFile.FieldType.object "java/util/List")), Jvm.Cond.code ({ cls := "java/util/ImmutableCollections$ListN", name := "size", desc := "()I" } : Jvm.MethodName) jdk_45_method_3_code (1 : Nat) (Option.some Jvm.ClassFile.FieldType.int), Jvm.Cond.code ({ cls := "java/util/ImmutableCollections", name := "listFromArray", desc := "([Ljava/lang/Object;)Ljava/util/List;" } : Jvm.MethodName) jdk_56_method_4_code (3 : Nat) (Option.some (Jvm.ClassFile.FieldType.object "java/util/List")), Jvm.Cond.code ({ cls := "java/util/Objects", name := "requireNonNull", desc := "(Ljava/lang/Object;)Ljava/lang/Object;" } : Jvm.MethodName) jdk_31_method_10_code (1 : Nat) (Option.some (Jvm.ClassFile.FieldType.object "java/lang/Object")), Jvm.Cond.code ({ cls := "java/util/ImmutableCollections$ListN", name := "<init>", desc := "([Ljava/lang/Object;Z)V" } : Jvm.MethodName) jdk_45_method_1_code (3 : Nat) (Option.none : Option Jvm.ClassFile.FieldType), Jvm.Cond.code ({ cls := "java/util/ImmutableCollections$AbstractImmutableList", name := "<init>", desc := "()V" } : Jvm.MethodName) jdk_46_method_1_code (1 : Nat) (Option.none : Option Jvm.ClassFile.FieldType), Jvm.Cond.code ({ cls := "java/util/ImmutableCollections$AbstractImmutableCollection", name := "<init>", desc := "()V" } : Jvm.MethodName) jdk_47_method_1_code (1 : Nat) (Option.none : Option Jvm.ClassFile.FieldType), Jvm.Cond.code ({ cls := "java/util/AbstractCollection", name := "<init>", desc := "()V" } : Jvm.MethodName) jdk_22_method_1_code (1 : Nat) (Option.none : Option Jvm.ClassFile.FieldType), Jvm.Cond.code ({ cls := "java/util/ImmutableCollections$ListN", name := "get", desc := "(I)Ljava/lang/Object;" } : Jvm.MethodName) jdk_45_method_4_code (2 : Nat) (Option.some (Jvm.ClassFile.FieldType.object "java/lang/Object")), Jvm.Cond.code ({ cls := "java/lang/String", name := "equals", desc := "(Ljava/lang/Object;)Z" } : Jvm.MethodName) jdk_42_method_66_code (3 : Nat) (Option.some Jvm.ClassFile.FieldType.boolean), Jvm.Cond.code ({ cls := "java/util/ImmutableCollections$List12", name := "<init>", desc := "(Ljava/lang/Object;Ljava/lang/Object;)V" } : Jvm.MethodName) jdk_44_method_2_code (3 : Nat) (Option.none : Option Jvm.ClassFile.FieldType), Jvm.Cond.code ({ cls := "java/util/ImmutableCollections$List12", name := "size", desc := "()I" } : Jvm.MethodName) jdk_44_method_3_code (1 : Nat) (Option.some Jvm.ClassFile.FieldType.int), Jvm.Cond.code ({ cls := "java/util/ImmutableCollections$List12", name := "get", desc := "(I)Ljava/lang/Object;" } : Jvm.MethodName) jdk_44_method_5_code (2 : Nat) (Option.some (Jvm.ClassFile.FieldType.object "java/lang/Object")), Jvm.Cond.code ({ cls := "java/util/ImmutableCollections$List12", name := "<init>", desc := "(Ljava/lang/Object;)V" } : Jvm.MethodName) jdk_44_method_1_code (2 : Nat) (Option.none : Option Jvm.ClassFile.FieldType)]
set_option maxRecDepth 65536 in
theorem codes_eq : words1.filter isCode = codes1 := rfl
theorem w_codes : ∀ c ∈ words1.filter isCode, c.before args0 about1 = true := by
  rw [codes_eq]
  intro c hc
  simp only [codes1, List.mem_cons, List.not_mem_nil, or_false] at hc
  rcases hc with rfl | rfl | rfl | rfl | rfl | rfl | rfl | rfl | rfl | rfl | rfl | rfl | rfl | rfl | rfl | rfl | rfl | rfl | rfl | rfl | rfl | rfl | rfl | rfl | rfl | rfl | rfl
  · exact w_c0
  · exact w_c1
  · exact w_c2
  · exact w_c3
  · exact w_c4
  · exact w_c5
  · exact w_c6
  · exact w_c7
  · exact w_c8
  · exact w_c9
  · exact w_c10
  · exact w_c11
  · exact w_c12
  · exact w_c13
  · exact w_c14
  · exact w_c15
  · exact w_c16
  · exact w_c17
  · exact w_c18
  · exact w_c19
  · exact w_c20
  · exact w_c21
  · exact w_c22
  · exact w_c23
  · exact w_c24
  · exact w_c25
  · exact w_c26
set_option maxRecDepth 65536 in
theorem w_t1 : (words1.take 24).all (fun c => isCode c || c.before args0 about1) = true := by decide +kernel
set_option maxRecDepth 65536 in
theorem w_t2 : ((words1.drop 24).take 24).all (fun c => isCode c || c.before args0 about1) = true := by decide +kernel
set_option maxRecDepth 65536 in
theorem w_t3 : (((words1.drop 24).drop 24).take 24).all (fun c => isCode c || c.before args0 about1) = true := by decide +kernel
set_option maxRecDepth 65536 in
theorem w_t4 : ((((words1.drop 24).drop 24).drop 24).take 24).all (fun c => isCode c || c.before args0 about1) = true := by decide +kernel
set_option maxRecDepth 65536 in
theorem w_t5 : (((((words1.drop 24).drop 24).drop 24).drop 24).take 24).all (fun c => isCode c || c.before args0 about1) = true := by decide +kernel
set_option maxRecDepth 65536 in
theorem w_t6 : ((((((words1.drop 24).drop 24).drop 24).drop 24).drop 24).take 24).all (fun c => isCode c || c.before args0 about1) = true := by decide +kernel
set_option maxRecDepth 65536 in
theorem w_t7 : ((((((words1.drop 24).drop 24).drop 24).drop 24).drop 24).drop 24).all (fun c => isCode c || c.before args0 about1) = true := by decide +kernel
theorem w_tables : (allAtoms (Jvm.Cond.code x code maxLocals ret :: tables_1)).before args0 about1 = true := by
  rw [allAtoms_all]
  show words1.all (fun c => c.before args0 about1) = true
  refine all_split ?_ w_codes
  rw [← List.take_append_drop 24 words1, List.all_append, w_t1, ← List.take_append_drop 24 (words1.drop 24), List.all_append, w_t2, ← List.take_append_drop 24 ((words1.drop 24).drop 24), List.all_append, w_t3, ← List.take_append_drop 24 (((words1.drop 24).drop 24).drop 24), List.all_append, w_t4, ← List.take_append_drop 24 ((((words1.drop 24).drop 24).drop 24).drop 24), List.all_append, w_t5, ← List.take_append_drop 24 (((((words1.drop 24).drop 24).drop 24).drop 24).drop 24), List.all_append, w_t6, w_t7]
  rfl
set_option maxRecDepth 65536 in
theorem w_rest : rest_1_c.before args0 about1 = true := by decide +kernel
set_option maxRecDepth 65536 in
theorem w_case : (Jvm.Cond.and given_1 narrow_1).before args0 about1 = true := by decide +kernel
set_option maxRecDepth 65536 in
theorem w_consts : constsHeld consts_1 about1 := Jvm.Lit.constsHeldB_iff.mp (by decide +kernel)
theorem w_applies : (headSpec (Jvm.Cond.code x code maxLocals ret :: tables_1) room_1).applies x e0.platform about1 = true :=
  (Spec.applies_iff w_frames).mpr ⟨w_running, w_runnable, w_alone, w_named, w_hears, w_ripe, w_room, w_tables⟩
theorem atStart : AtStart classFile x code maxLocals ret World_1 tables_1 room_1 Calls_1 rest_1 Pre_1 launch0 p0 e0 about1 theMethod args0 below0 :=
  ⟨lists_1, trivial, launch0.admits_env _ _ _, launch0.least_env, fairChoices_fair.cas, fairChoices_fair.clock, w_frames, w_args, w_heap, w_applies, ⟨w_consts, trivial⟩, w_rest, w_case⟩
end start1
theorem witness_1 : WitnessClaimed_1 := ⟨start1.p0, start1.e0, start1.about1, start1.theMethod, start1.args0, start1.below0, start1.atStart⟩
end Jvm.Pilot.@@N@@
