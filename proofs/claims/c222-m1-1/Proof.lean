import JvmDerived
import JvmDerived.Pilot.@@N@@Statement
import JvmDerived.Pilot.@@N@@Code
set_option linter.unusedVariables false
set_option linter.unusedSimpArgs false
namespace Jvm.Pilot.@@N@@
open Jvm Jvm.ClassFile Sem Op Lib Jvm.Free Jvm.Stand Jvm.LawKit Jvm.RoadKit Bundle Jvm.Pilot.@@N@@.Jvm.D
section OwnKit
variable {p : Program} {l : Launch} {e : Env} {R : Room} {s : State} {m : MethodId} {args : Array Value} {below : List Frame} {meth : Method} {c : Code} {T : State} {locs : List Loc} {cells slots : Nat}
def own_Goes (p : Program) (e : Env) (below : List Frame) (U : State) (Q : Outcome → State → Prop) : Prop := ∃ (t : State) (o : Outcome), Steps p.tables e below U t ∧ t.status = .running ∧ Ended t below o ∧ Q o t
theorem own_go {U U' : State} {Q : Outcome → State → Prop} (k : ∀ t, Steps p.tables e below U' t → Steps p.tables e below U t) (h : own_Goes p e below U' Q) : own_Goes p e below U Q := by
  obtain ⟨t, o, h1, h2⟩ := h
  exact ⟨t, o, k t h1, h2⟩
theorem own_goS {U U' : State} {Q : Outcome → State → Prop} (k : Steps p.tables e below U U') (h : own_Goes p e below U' Q) : own_Goes p e below U Q := own_go (fun t h => k.trans h) h
theorem own_cast {g g' : JFrame} {Q : Outcome → State → Prop} (q : g = g') (h : own_Goes p e below (T.setTop g') Q) : own_Goes p e below (T.setTop g) Q := q ▸ h
def own_PostN (s : State) (Qc : Option Value → Heap → List Loc → Prop) (k n : Nat) : Outcome → State → Prop := fun o t => ∃ v L, o = .returned v ∧ Qc v t.heap L ∧ FrameEnd s o t L k n
def own_PostW (s : State) (Qc : Option Value → Heap → List Loc → Prop) (k n : Nat) : Outcome → State → Prop := fun o t => ∃ v L, o = .returned v ∧ Qc v t.heap L ∧ ReturnedEndW s o t L k n
theorem own_endN (X : Stand p l e R s m args below meth c T locs cells slots) {v : Option Value} (hv : meth.sig.returnType = none → v = none) (hlocks : meth.locks = false) {Qc : Option Value → Heap → List Loc → Prop} {k n : Nat} (hk : cells ≤ k) (hn : slots ≤ n) (hQ : Qc v T.heap locs) {U : State}
    (st : ∀ fs, (∀ (f : JFrame) (acts : List Action), f.method = m → f.locked = none → f.entered = [] → (doReturn e (T.setTop f) acts v).1 = T.setFrames fs) → Steps p.tables e below U (T.setFrames fs)) : own_Goes p e below U (own_PostN s Qc k n) := by
  obtain ⟨fs, hr, hrun, hended, hW, hsame⟩ := X.leave hv hlocks
  exact ⟨_, _, st fs hr, hrun, hended, _, _, rfl, hQ, ⟨_, rfl⟩, hW, hsame.mono hk hn⟩
theorem own_endW {vm0 : Vm} (X : Stand p l e R (s.setVm vm0) m args below meth c T locs cells slots) {q : Nat} (hS : s.Since vm0 q) (hq : q ≤ T.heap.size) {v : Option Value} (hv : meth.sig.returnType = none → v = none) (hlocks : meth.locks = false) {Qc : Option Value → Heap → List Loc → Prop} {k n : Nat} (hk : cells ≤ k) (hn : slots ≤ n) (hQ : Qc v T.heap locs) {U : State}
    (st : ∀ fs, (∀ (f : JFrame) (acts : List Action), f.method = m → f.locked = none → f.entered = [] → (doReturn e (T.setTop f) acts v).1 = T.setFrames fs) → Steps p.tables e below U (T.setFrames fs)) : own_Goes p e below U (own_PostW s Qc k n) := by
  obtain ⟨fs, hr, hrun, hended, h1, h2, h3, h4⟩ := X.leaveW hS hq hv hlocks
  exact ⟨_, _, st fs hr, hrun, hended, _, _, rfl, hQ, h1, h2, h3, h4.mono hk hn⟩
theorem own_ne {a b : Nat} (h : a < b ∨ b < a) : a ≠ b := by omega
theorem own_NSroot {Z : State} {a0 : Array Value} {O K : String} {n : Nat} (w : (Cond.noSuperclass O).before a0 Z = true) (wk : (Cond.instantiable K n).before a0 Z = true) (hn : O ≠ K) : NS Z O K := by
  obtain ⟨c, k, h1, h2, h3, -, -⟩ := Cond.noSuperclass_spec w
  obtain ⟨t, kt, g1, -⟩ := Cond.instantiable_spec wk
  have ne := ids_ne h1 g1 hn
  refine ⟨c, t, h1, g1, fun fuel => ?_⟩
  cases fuel with
  | zero => rfl
  | succ f => simp [Vm.isSubclassAux, ne, h2, h3]
theorem own_NSno {Z : State} {a0 : Array Value} {C S K : String} {m : Nat} (w : (Cond.superclass C S).before a0 Z = true) (wk : (Cond.instantiable K m).before a0 Z = true) (n : NS Z C K) (hn : C ≠ K) : ∃ c t, Z.vm.findClass C = some c ∧ Z.vm.findClass K = some t ∧ Z.vm.assignable c t = false := by
  obtain ⟨c, t, h0, g0, n3⟩ := n
  obtain ⟨p, k, kp, h1, h2, h3, h4, h5, -, h7⟩ := Cond.superclass_spec h0 w
  obtain ⟨t', k', g1, g2, g5, g7, -⟩ := Cond.instantiable_spec wk
  cases g0.symm.trans g1
  have g8 : k'.isInterface = false := (Bool.or_eq_false_iff.mp g7).1
  have ne := ids_ne h0 g0 hn
  refine ⟨c, t, h0, g0, ?_⟩
  show Z.vm.assignableAux (255 + 1) c t = false
  simp [Vm.assignableAux, ne, h2, g2, h5, g5, g8, Vm.isSubclass, n3]
theorem own_fitsR {v : Value} {t : FieldType} (h : v.isRef = true) (ht : t.isReference = true) : fits t v = true := by
  cases v <;> cases t <;> simp_all [Value.isRef, fits, FieldType.isReference]
theorem own_narR {v : Value} {t : FieldType} (h : v.isRef = true) (ht : t.isReference = true) : narrow t v = v := by
  cases v <;> cases t <;> simp_all [Value.isRef, narrow, FieldType.isReference]
end OwnKit
theorem own_sta {s : State} {args : Array Value} {C n d K : String} (h : (Cond.exactly (Term.static C n d) K).value args s none s [] = some true) (w1 : (Cond.initialized C).before args s = true) (w2 : (Cond.laysStatic C n d).before args s = true) : ∃ w, Sta s s.heap C n d (.ref w) ∧ Exa s s.heap w K := by
  obtain ⟨w, ev⟩ := exa_v h
  exact ⟨w, Sta.start ev (Or.inr ⟨w1, w2⟩), Exa.start ev h⟩
theorem own_len {s : State} {args : Array Value} {t : Term} {w : Addr} {cl : Cell} {ty : FieldType} {n : Int32} (ev : t.eval args s none [] s = some (.ref w)) (A : Arr s s.heap w cl ty) (l : (Term.length t).eval args s none [] s = some (.int n)) : cl.slots.size.toInt32 = n ∧ cl.slots.size < 2 ^ 31 := by
  have ha : s.arrayAt? w = some cl := A.fin (Vm.Alike.refl _)
  by_cases hl : cl.slots.size < 2 ^ 31
  · exact ⟨Value.int.inj (Option.some.inj ((len_f ev ha hl).symm.trans l)), hl⟩
  · simp [Term.eval, ev, ha, hl] at l
theorem own_sub {s : State} {args : Array Value} {t : Term} {idx : List Nat} {j n : Int32} (e : t.eval args s none idx s = some (.int j)) : (Term.sub t (.int n)).eval args s none idx s = some (.int (j - n)) := by
  simp [Term.eval, e]
theorem own_fldNull {s : State} {args : Array Value} {t : Term} {C n d : String} {w : Addr} (ev : t.eval args s none [] s = some (.ref w)) (h : (Cond.eq (Term.field t C n d) .null).value args s none s [] = some true) : Fld s s.heap w C n d .null := Fld.start ((fld_at ev).symm.trans (null_v h))

theorem own_eqR {s : State} {args : Array Value} {t u : Term} {w : Addr} (hu : u.eval args s none [] s = some (.ref w)) (h : (Cond.eq t u).value args s none s [] = some true) : t.eval args s none [] s = some (.ref w) := by
  obtain ⟨x, y, e1, e2, k1, k2⟩ := cmp_v (Or.inl h)
  cases hu.symm.trans e2
  have hx : x.isRef = true := k2.2
  rw [e1, gotT (eq_R e1 hu hx rfl) h]
theorem own_elem {s : State} {args : Array Value} {t : Term} {w : Addr} {cl : Cell} {ty : FieldType} {j : Int32} {v : Value} (ev : t.eval args s none [] s = some (.ref w)) (A : Arr s s.heap w cl ty) (h : (Term.elem t (.int j)).eval args s none [] s = some v) (nn : ¬ j < 0) : cl.slots[j.toNatClampNeg]? = some v :=
  (elem_f ev (Term.int_eval j) (A.fin (Vm.Alike.refl _)) nn).symm.trans h

def GG (Z : State) (gw1 : Addr) (gw2 : Addr) (gwA : Addr) (gk : ClassId) : Prop := Sta Z Z.heap "com/example/saasy/saasy/koogallerycommon/KooGalleryCipher$EncryptType" "AES_256" "Lcom/example/saasy/saasy/koogallerycommon/KooGalleryCipher$EncryptType;" (.ref gw1) ∧ Exa Z Z.heap gw1 "com/example/saasy/saasy/koogallerycommon/KooGalleryCipher$EncryptType" ∧ Sta Z Z.heap "com/example/saasy/saasy/koogallerycommon/KooGalleryCipher$EncryptType" "AES_128" "Lcom/example/saasy/saasy/koogallerycommon/KooGalleryCipher$EncryptType;" (.ref gw2) ∧ Exa Z Z.heap gw2 "com/example/saasy/saasy/koogallerycommon/KooGalleryCipher$EncryptType" ∧ Sta Z Z.heap "com/example/saasy/saasy/koogallerycommon/KooGalleryCipher$EncryptType" "$VALUES" "[Lcom/example/saasy/saasy/koogallerycommon/KooGalleryCipher$EncryptType;" (.ref gwA) ∧ Exa Z Z.heap gwA "[Lcom/example/saasy/saasy/koogallerycommon/KooGalleryCipher$EncryptType;" ∧ Arv Z Z.heap gwA gk (.object "com/example/saasy/saasy/koogallerycommon/KooGalleryCipher$EncryptType") (2 : Int32) [(.ref gw1), (.ref gw2)] .null ∧ Fld Z Z.heap gw1 "com/example/saasy/saasy/koogallerycommon/KooGalleryCipher$EncryptType" "number" "I" (.int (1 : Int32)) ∧ Fld Z Z.heap gw2 "com/example/saasy/saasy/koogallerycommon/KooGalleryCipher$EncryptType" "number" "I" (.int (2 : Int32))
theorem own_d2_0 : decode prog_10_method_1_code 0 = .ok (.getstatic 10, 3) := by decide +kernel
theorem own_d2_3 : decode prog_10_method_1_code 3 = .ok (.invokevirtual 14, 3) := by decide +kernel
theorem own_d2_6 : decode prog_10_method_1_code 6 = .ok (.checkcast 15, 3) := by decide +kernel
theorem own_d2_9 : decode prog_10_method_1_code 9 = .ok (.areturn, 1) := by decide +kernel
theorem own_pn_com_example_saasy_saasy_koogallerycommon_KooGalleryCipher_EncryptType : plainName "com/example/saasy/saasy/koogallerycommon/KooGalleryCipher$EncryptType" = true := by first | (simp [plainName, overriddenIn]; done) | decide +kernel
theorem own_ef_own_values (m : MethodId) : entryFrame m #[] 0 = mkF m 0 #[] [] := by first | (simp [entryFrame, mkF, argsToLocals, Value.category]; done) | rfl
def Q_own_values (Z : State) (gw1 : Addr) (gw2 : Addr) (gwA : Addr) (gk : ClassId) (h0 : Heap) (n0 : Nat) (v : Option Value) (h : Heap) (L : List Loc) : Prop := Fr n0 L ∧ Keep h0 h [] ∧ ∃ (r : Addr), v = some (.ref r) ∧ Exa Z h r "[Lcom/example/saasy/saasy/koogallerycommon/KooGalleryCipher$EncryptType;" ∧ Arv Z h r gk (.object "com/example/saasy/saasy/koogallerycommon/KooGalleryCipher$EncryptType") (2 : Int32) [(.ref gw1), (.ref gw2)] .null ∧ h0.size ≤ r
set_option maxRecDepth 65536 in
set_option maxHeartbeats 40000000 in
theorem own_values (l : Launch) (Z : State) (a0 : Array Value) (hw : ∀ d ∈ tables_1, d.before a0 Z = true) (ws : List Jvm.Cond) (h0 : Heap) (n0 : Nat) (O0 : Old Z n0 h0) (gw1 : Addr) (gw2 : Addr) (gwA : Addr) (gk : ClassId) (G : GG Z gw1 gw2 gwA gk) :
    MetFree l (⟨"com/example/saasy/saasy/koogallerycommon/KooGalleryCipher$EncryptType", "values", "()[Lcom/example/saasy/saasy/koogallerycommon/KooGalleryCipher$EncryptType;"⟩ : MethodName) (head1 (Jvm.Cond.code (⟨"com/example/saasy/saasy/koogallerycommon/KooGalleryCipher$EncryptType", "values", "()[Lcom/example/saasy/saasy/koogallerycommon/KooGalleryCipher$EncryptType;"⟩ : MethodName) prog_10_method_1_code 0 (some (.array (.object "com/example/saasy/saasy/koogallerycommon/KooGalleryCipher$EncryptType"))) :: ws) ({ frames := 1, cells := 1, slots := 2, locals := 14 } : Room)) (fun as_ U_ => as_ = #[] ∧ Z.Warmed39 U_.vm ∧ U_.heap = h0) (fun _ _ _ _ _ => True) (fun _ U_ o_ U2_ => ∃ v_ L_, o_ = .returned v_ ∧ Q_own_values Z gw1 gw2 gwA gk h0 n0 v_ U2_.heap L_ ∧ FrameEnd U_ o_ U2_ L_ ({ frames := 1, cells := 1, slots := 2, locals := 14 } : Room).cells ({ frames := 1, cells := 1, slots := 2, locals := 14 } : Room).slots) := by
  refine MetFree.of_bodySF (plainFor_of_name own_pn_com_example_saasy_saasy_koogallerycommon_KooGalleryCipher_EncryptType) hisR ?_
  intro p e s m args below meth c s₁ Bd hml0 hP hK
  obtain ⟨rfl, hZ, hh⟩ := hP
  have hx := Bd.exec
  have hby := Bd.bytes
  have hml : c.maxLocals = 0 := hml0
  have hown : s.vm.findClass "com/example/saasy/saasy/koogallerycommon/KooGalleryCipher$EncryptType" = some m.cls := findClass_of_methodNamed Bd.named
  have hnm := (name_of_methodNamed Bd.named Bd.method).1
  have hlk : meth.locks = false := Bd.notSynchronized
  have hret := Bd.returns
  have X0 : Stand p l e ({ frames := 1, cells := 1, slots := 2, locals := 14 } : Room) s m #[] below meth c s₁ [] 0 0 := Stand.of_body Bd
  have e0 : s₁.heap = h0 := by rw [← hh, Bd.state]; rfl
  have N0 := Fr.nil n0
  have z0 : Z.heap.size = n0 := O0.1
  have z1 : n0 ≤ h0.size := z0 ▸ O0.2.1
  have K0 : Keep h0 h0 [] := Keep.refl _ _
  show own_Goes p e below (s₁.setTop (entryFrame m #[] 0)) (own_PostN s (Q_own_values Z gw1 gw2 gwA gk h0 n0) ({ frames := 1, cells := 1, slots := 2, locals := 14 } : Room).cells ({ frames := 1, cells := 1, slots := 2, locals := 14 } : Room).slots)
  refine own_cast (own_ef_own_values m) ?_
  show own_Goes p e below (s₁.setTop (mkF m 0 #[] [])) _
  obtain ⟨G0, G1, G2, G3, G4, G5, G6, G7, G8⟩ := id G
  have ltG1 : gw1 < Z.heap.size := G1.lt
  have ltG3 : gw2 < Z.heap.size := G3.lt
  have ltG5 : gwA < Z.heap.size := G5.lt
  have q1 := G4.ext O0.2
  obtain ⟨T2, X2, e2, st2⟩ := getS2 X0 hx hZ hown (host := "") (Or.inl (hw _ (List.mem_of_getElem? (i := 7) rfl))) Via.refl e0 q1 (g := (mkF m 0 #[] [])) rfl (hb hby own_d2_0)
  refine own_go st2 ?_
  show own_Goes p e below (T2.setTop (mkF m 3 #[] [(.ref gwA)])) _
  have q3 := G6.ext O0.2
  have q4 := G5.ext O0.2
  obtain ⟨T5, h5, X5, e5, E5, V5, A5, st5⟩ := cloneH X2 hx hZ hown (hw _ (List.mem_of_getElem? (i := 9) rfl)) (hw _ (List.mem_of_getElem? (i := 10) rfl)) (hw _ (List.mem_of_getElem? (i := 14) rfl)) (hw _ (List.mem_of_getElem? (i := 12) rfl)) (hw _ (List.mem_of_getElem? (i := 13) rfl)) (hw _ (List.mem_of_getElem? (i := 15) rfl)) e2 (Arv.arh q3) q4 (g := (mkF m 3 #[] [(.ref gwA)])) rfl (by rw [hml]; rfl) rfl (hb hby own_d2_3) (by decide) (W := 0) (cap := 2) (by show 2 * 0 + _ ≤ _; exact Nat.le_of_eq rfl) (by decide) (by decide) (by decide) (by decide)
  obtain ⟨b5, g5⟩ : ∃ z, z = h0.size := ⟨_, rfl⟩
  rw [← g5] at A5 V5 st5
  refine own_go st5 ?_
  have O6 := O0.ext E5
  have sz7 : h0.size ≤ h5.size := E5.1
  have K8 := K0.ext E5
  have l5 : b5 < h5.size := A5.lt
  replace V5 : Arv Z h5 b5 gk (.object "com/example/saasy/saasy/koogallerycommon/KooGalleryCipher$EncryptType") (2 : Int32) [(.ref gw1), (.ref gw2)] .null := V5
  show own_Goes p e below (T5.setTop (mkF m 6 #[] [(.ref b5)])) _
  obtain ⟨T9, X9, e9, st9⟩ := castY X5 hx hZ hown (hw _ (List.mem_of_getElem? (i := 19) rfl)) e5 (Ins.self A5) (g := (mkF m 6 #[] [(.ref b5)])) rfl rfl (hb hby own_d2_6)
  refine own_go st9 ?_
  show own_Goes p e below (T9.setTop (mkF m 9 #[] [(.ref b5)])) _
  refine own_endN X9 (v := (some (.ref b5))) (fun h => by rw [hret] at h; cases h) hlk (by decide) (by decide) ?_ (fun fs hr => retOut X9 hx hret rfl (Or.inr (Or.inr (Or.inr (Or.inr ⟨rfl, rfl, rfl⟩)))) (hb hby own_d2_9) hr)
  show Q_own_values Z gw1 gw2 gwA gk h0 n0 _ T9.heap _
  rw [e9]
  exact ⟨N0, K8, b5, rfl, A5, V5, (show h0.size ≤ b5 by first | assumption | omega | decide)⟩
theorem own_d1_0 : decode prog_10_method_5_code 0 = .ok (.invokestatic 36, 3) := by decide +kernel
theorem own_pd_0 : parseMethodDescriptor "()[Lcom/example/saasy/saasy/koogallerycommon/KooGalleryCipher$EncryptType;" = some ⟨[], some (.array (.object "com/example/saasy/saasy/koogallerycommon/KooGalleryCipher$EncryptType"))⟩ := by decide +kernel
abbrev own_m1 : MethodName := ⟨"com/example/saasy/saasy/koogallerycommon/KooGalleryCipher$EncryptType", "values", "()[Lcom/example/saasy/saasy/koogallerycommon/KooGalleryCipher$EncryptType;"⟩
theorem own_d1_3 : decode prog_10_method_5_code 3 = .ok (.astore_n 1, 1) := by decide +kernel
theorem own_d1_4 : decode prog_10_method_5_code 4 = .ok (.aload_n 1, 1) := by decide +kernel
theorem own_d1_5 : decode prog_10_method_5_code 5 = .ok (.arraylength, 1) := by decide +kernel
theorem own_d1_6 : decode prog_10_method_5_code 6 = .ok (.istore_n 2, 1) := by decide +kernel
theorem own_d1_7 : decode prog_10_method_5_code 7 = .ok (.iconst 0, 1) := by decide +kernel
theorem own_d1_8 : decode prog_10_method_5_code 8 = .ok (.istore_n 3, 1) := by decide +kernel
theorem own_d1_9 : decode prog_10_method_5_code 9 = .ok (.iload_n 3, 1) := by decide +kernel
theorem own_d1_10 : decode prog_10_method_5_code 10 = .ok (.iload_n 2, 1) := by decide +kernel
theorem own_d1_11 : decode prog_10_method_5_code 11 = .ok (.if_icmp .ge 26, 3) := by decide +kernel
theorem own_d1_14 : decode prog_10_method_5_code 14 = .ok (.aload_n 1, 1) := by decide +kernel
theorem own_d1_15 : decode prog_10_method_5_code 15 = .ok (.iload_n 3, 1) := by decide +kernel
theorem own_d1_16 : decode prog_10_method_5_code 16 = .ok (.aaload, 1) := by decide +kernel
theorem own_d1_17 : decode prog_10_method_5_code 17 = .ok (.astore 4, 2) := by decide +kernel
theorem own_d1_19 : decode prog_10_method_5_code 19 = .ok (.aload 4, 2) := by decide +kernel
theorem own_d1_21 : decode prog_10_method_5_code 21 = .ok (.getfield 29, 3) := by decide +kernel
theorem own_d1_24 : decode prog_10_method_5_code 24 = .ok (.iload_n 0, 1) := by decide +kernel
theorem own_d1_25 : decode prog_10_method_5_code 25 = .ok (.if_icmp .ne 6, 3) := by decide +kernel
theorem own_d1_28 : decode prog_10_method_5_code 28 = .ok (.aload 4, 2) := by decide +kernel
theorem own_d1_30 : decode prog_10_method_5_code 30 = .ok (.areturn, 1) := by decide +kernel
theorem own_ef_own_nb1 (m : MethodId) (xn : Int32) : entryFrame m #[(.int xn)] 5 = mkF m 0 #[.val (.int xn), .unset, .unset, .unset, .unset] [] := by first | (simp [entryFrame, mkF, argsToLocals, Value.category]; done) | rfl
def Q_own_nb1 (Z : State) (xn : Int32) (gw1 : Addr) (gw2 : Addr) (gwA : Addr) (gk : ClassId) (h0 : Heap) (n0 : Nat) (v : Option Value) (h : Heap) (L : List Loc) : Prop := Fr n0 L ∧ Keep h0 h [] ∧ v = some (.ref gw1)
set_option maxRecDepth 65536 in
set_option maxHeartbeats 40000000 in
theorem own_nb1 (l : Launch) (Z : State) (a0 : Array Value) (hw : ∀ d ∈ tables_1, d.before a0 Z = true) (ws : List Jvm.Cond) (xn : Int32) (h0 : Heap) (n0 : Nat) (O0 : Old Z n0 h0) (gw1 : Addr) (gw2 : Addr) (gwA : Addr) (gk : ClassId) (G : GG Z gw1 gw2 gwA gk) (P0 : xn = (1 : Int32)) :
    MetFree l (⟨"com/example/saasy/saasy/koogallerycommon/KooGalleryCipher$EncryptType", "numbered", "(I)Lcom/example/saasy/saasy/koogallerycommon/KooGalleryCipher$EncryptType;"⟩ : MethodName) (head1 (Jvm.Cond.code (⟨"com/example/saasy/saasy/koogallerycommon/KooGalleryCipher$EncryptType", "numbered", "(I)Lcom/example/saasy/saasy/koogallerycommon/KooGalleryCipher$EncryptType;"⟩ : MethodName) prog_10_method_5_code 5 (some (.object "com/example/saasy/saasy/koogallerycommon/KooGalleryCipher$EncryptType")) :: ws) ({ frames := 2, cells := 1, slots := 2, locals := 25 } : Room)) (fun as_ U_ => as_ = #[(.int xn)] ∧ Z.Warmed39 U_.vm ∧ U_.heap = h0) (fun _ _ _ _ _ => True) (fun _ U_ o_ U2_ => ∃ v_ L_, o_ = .returned v_ ∧ Q_own_nb1 Z xn gw1 gw2 gwA gk h0 n0 v_ U2_.heap L_ ∧ FrameEnd U_ o_ U2_ L_ ({ frames := 2, cells := 1, slots := 2, locals := 25 } : Room).cells ({ frames := 2, cells := 1, slots := 2, locals := 25 } : Room).slots) := by
  refine MetFree.of_bodySF (plainFor_of_name own_pn_com_example_saasy_saasy_koogallerycommon_KooGalleryCipher_EncryptType) hisR ?_
  intro p e s m args below meth c s₁ Bd hml0 hP hK
  obtain ⟨rfl, hZ, hh⟩ := hP
  have hx := Bd.exec
  have hby := Bd.bytes
  have hml : c.maxLocals = 5 := hml0
  have hown : s.vm.findClass "com/example/saasy/saasy/koogallerycommon/KooGalleryCipher$EncryptType" = some m.cls := findClass_of_methodNamed Bd.named
  have hnm := (name_of_methodNamed Bd.named Bd.method).1
  have hlk : meth.locks = false := Bd.notSynchronized
  have hret := Bd.returns
  have X0 : Stand p l e ({ frames := 2, cells := 1, slots := 2, locals := 25 } : Room) s m #[(.int xn)] below meth c s₁ [] 0 0 := Stand.of_body Bd
  have e0 : s₁.heap = h0 := by rw [← hh, Bd.state]; rfl
  have N0 := Fr.nil n0
  have z0 : Z.heap.size = n0 := O0.1
  have z1 : n0 ≤ h0.size := z0 ▸ O0.2.1
  have K0 : Keep h0 h0 [] := Keep.refl _ _
  show own_Goes p e below (s₁.setTop (entryFrame m #[(.int xn)] 5)) (own_PostN s (Q_own_nb1 Z xn gw1 gw2 gwA gk h0 n0) ({ frames := 2, cells := 1, slots := 2, locals := 25 } : Room).cells ({ frames := 2, cells := 1, slots := 2, locals := 25 } : Room).slots)
  refine own_cast (own_ef_own_nb1 m xn) ?_
  show own_Goes p e below (s₁.setTop (mkF m 0 #[.val (.int xn), .unset, .unset, .unset, .unset] [])) _
  obtain ⟨G0, G1, G2, G3, G4, G5, G6, G7, G8⟩ := id G
  have ltG1 : gw1 < Z.heap.size := G1.lt
  have ltG3 : gw2 < Z.heap.size := G3.lt
  have ltG5 : gwA < Z.heap.size := G5.lt
  obtain ⟨_, _, ⟨T1, L1, k1, n1⟩, -, X1, ⟨Lc1, hQ1, l1, y1, z1⟩, st1⟩ := Jvm.LawKit.callS X0 hx (y := own_m1) hown (mvT hZ (hw _ (List.mem_of_getElem? (i := 4) rfl))) (mvT hZ (hw _ (List.mem_of_getElem? (i := 5) rfl))) (mvT hZ (hw _ (List.mem_of_getElem? (i := 2) rfl))) (mvT hZ (hw _ (List.mem_of_getElem? (i := 6) rfl))) (by decide) (backOf (W := 0) (own_values l Z a0 hw []  h0 n0 O0 gw1 gw2 gwA gk G) hZ (hw _ (List.mem_of_getElem? (i := 6) rfl)) (hw _ (List.mem_of_getElem? (i := 2) rfl)) (by decide) (by decide)) (g := (mkF m 0 #[.val (.int xn), .unset, .unset, .unset, .unset] [])) rfl (by rw [hml]; rfl) (argsL := []) (rest := []) (lenOf own_pd_0 rfl) rfl (by show 2 * 0 + _ ≤ _; exact Nat.le_of_eq rfl) (hb hby own_d1_0) (fun _ _ => ⟨rfl, e0, (by decide : 0 + 1 ≤ _), (by decide : 0 + 2 ≤ _)⟩)
  dsimp only [Pt.U, Pt.locs, Pt.cells, Pt.slots] at X1 l1 y1 z1 st1 hQ1
  subst l1 y1 z1
  obtain ⟨h1, e1⟩ : ∃ z, T1.heap = z := ⟨_, rfl⟩
  rw [e1] at hQ1
  obtain ⟨Nc1, Kc1, r_1, rfl, c1_0, c1_1, c1_2⟩ := hQ1
  have N1 := Fr.app N0 Nc1
  have O2 := O0.keep Kc1 all0
  have sz3 : h0.size ≤ h1.size := Kc1.1
  have K4 := Keep.trans K0 Kc1 all0
  have ltc1_0 : r_1 < h1.size := c1_0.lt
  have ltc1_1 : r_1 < h1.size := c1_1.lt
  refine own_go st1 ?_
  show own_Goes p e below (T1.setTop (mkF m 3 #[.val (.int xn), .unset, .unset, .unset, .unset] [(.ref r_1)])) _
  refine own_go (fun t_ k_ => XS.astoreN X1.here hx rfl (hb hby own_d1_3) rfl rfl (l' := #[.val (.int xn), .val (.ref r_1), .unset, .unset, .unset]) rfl k_) ?_
  show own_Goes p e below (T1.setTop (mkF m 4 #[.val (.int xn), .val (.ref r_1), .unset, .unset, .unset] [])) _
  refine own_go (fun t_ k_ => XS.aloadN X1.here hx rfl (hb hby own_d1_4) rfl rfl k_) ?_
  show own_Goes p e below (T1.setTop (mkF m 5 #[.val (.int xn), .val (.ref r_1), .unset, .unset, .unset] [(.ref r_1)])) _
  obtain ⟨clu5, Aru5, qu5, Szu5, Ngu5, Hsu5, Gsu5⟩ := id c1_1
  refine own_go (fun t_ k_ => X1.arraylength hx (by rw [e1]; exact Aru5.1) (State.isArrayOf_alike hZ.alike Aru5.2.1) (g := (mkF m 5 #[.val (.int xn), .val (.ref r_1), .unset, .unset, .unset] [(.ref r_1)])) rfl rfl (hb hby own_d1_5) _ k_) ?_
  rw [len_of Szu5 Ngu5]
  show own_Goes p e below (T1.setTop (mkF m 6 #[.val (.int xn), .val (.ref r_1), .unset, .unset, .unset] [(.int (2 : Int32))])) _
  refine own_go (fun t_ k_ => XS.istoreN X1.here hx rfl (hb hby own_d1_6) rfl (l' := #[.val (.int xn), .val (.ref r_1), .val (.int (2 : Int32)), .unset, .unset]) rfl k_) ?_
  show own_Goes p e below (T1.setTop (mkF m 7 #[.val (.int xn), .val (.ref r_1), .val (.int (2 : Int32)), .unset, .unset] [])) _
  refine own_go (fun t_ k_ => XS.iconst X1.here hx rfl (hb hby own_d1_7) k_) ?_
  show own_Goes p e below (T1.setTop (mkF m 8 #[.val (.int xn), .val (.ref r_1), .val (.int (2 : Int32)), .unset, .unset] [(.int (0 : Int32))])) _
  refine own_go (fun t_ k_ => XS.istoreN X1.here hx rfl (hb hby own_d1_8) rfl (l' := #[.val (.int xn), .val (.ref r_1), .val (.int (2 : Int32)), .val (.int (0 : Int32)), .unset]) rfl k_) ?_
  show own_Goes p e below (T1.setTop (mkF m 9 #[.val (.int xn), .val (.ref r_1), .val (.int (2 : Int32)), .val (.int (0 : Int32)), .unset] [])) _
  refine own_go (fun t_ k_ => XS.iloadN X1.here hx rfl (hb hby own_d1_9) rfl k_) ?_
  show own_Goes p e below (T1.setTop (mkF m 10 #[.val (.int xn), .val (.ref r_1), .val (.int (2 : Int32)), .val (.int (0 : Int32)), .unset] [(.int (0 : Int32))])) _
  refine own_go (fun t_ k_ => XS.iloadN X1.here hx rfl (hb hby own_d1_10) rfl k_) ?_
  show own_Goes p e below (T1.setTop (mkF m 11 #[.val (.int xn), .val (.ref r_1), .val (.int (2 : Int32)), .val (.int (0 : Int32)), .unset] [(.int (2 : Int32)), (.int (0 : Int32))])) _
  refine own_go (fun t_ k_ => XS.icmpNo X1.here hx rfl (hb hby own_d1_11) rfl (tlt (show ((0 : Int32) < (2 : Int32)) from by decide)).2.1 k_) ?_
  show own_Goes p e below (T1.setTop (mkF m 14 #[.val (.int xn), .val (.ref r_1), .val (.int (2 : Int32)), .val (.int (0 : Int32)), .unset] [])) _
  refine own_go (fun t_ k_ => XS.aloadN X1.here hx rfl (hb hby own_d1_14) rfl rfl k_) ?_
  show own_Goes p e below (T1.setTop (mkF m 15 #[.val (.int xn), .val (.ref r_1), .val (.int (2 : Int32)), .val (.int (0 : Int32)), .unset] [(.ref r_1)])) _
  refine own_go (fun t_ k_ => XS.iloadN X1.here hx rfl (hb hby own_d1_15) rfl k_) ?_
  show own_Goes p e below (T1.setTop (mkF m 16 #[.val (.int xn), .val (.ref r_1), .val (.int (2 : Int32)), .val (.int (0 : Int32)), .unset] [(.int (0 : Int32)), (.ref r_1)])) _
  obtain ⟨clu6, Aru6, qu6, Szu6, Ngu6, Hsu6, Gsu6⟩ := id c1_1
  have inu6 : ¬ ((0 : Int32) < 0 ∨ clu6.slots.size ≤ ((0 : Int32)).toNatClampNeg) := inb_of Szu6 ⟨by decide, by decide⟩
  have atu6 : clu6.slots[((0 : Int32)).toNatClampNeg]? = some (.ref gw1) := Hsu6.at inu6 rfl
  refine own_go (fun t_ k_ => X1.aaload hx (j := (0 : Int32)) (v := (.ref gw1)) (by rw [e1]; exact Aru6.1) (State.isArrayOf_alike hZ.alike Aru6.2.1) rfl Aru6.2.2 inu6 atu6 (g := (mkF m 16 #[.val (.int xn), .val (.ref r_1), .val (.int (2 : Int32)), .val (.int (0 : Int32)), .unset] [(.int (0 : Int32)), (.ref r_1)])) rfl rfl (hb hby own_d1_16) _ k_) ?_
  show own_Goes p e below (T1.setTop (mkF m 17 #[.val (.int xn), .val (.ref r_1), .val (.int (2 : Int32)), .val (.int (0 : Int32)), .unset] [(.ref gw1)])) _
  refine own_go (fun t_ k_ => XS.astore X1.here hx rfl (hb hby own_d1_17) rfl rfl (l' := #[.val (.int xn), .val (.ref r_1), .val (.int (2 : Int32)), .val (.int (0 : Int32)), .val (.ref gw1)]) rfl k_) ?_
  show own_Goes p e below (T1.setTop (mkF m 19 #[.val (.int xn), .val (.ref r_1), .val (.int (2 : Int32)), .val (.int (0 : Int32)), .val (.ref gw1)] [])) _
  refine own_go (fun t_ k_ => XS.aload X1.here hx rfl (hb hby own_d1_19) rfl rfl k_) ?_
  show own_Goes p e below (T1.setTop (mkF m 21 #[.val (.int xn), .val (.ref r_1), .val (.int (2 : Int32)), .val (.int (0 : Int32)), .val (.ref gw1)] [(.ref gw1)])) _
  have q7 := G7.ext O2.2
  obtain ⟨T8, X8, e8, st8⟩ := getF X1 hx hZ hown (host := "") (Or.inl (hw _ (List.mem_of_getElem? (i := 21) rfl))) Via.refl e1 q7 (g := (mkF m 21 #[.val (.int xn), .val (.ref r_1), .val (.int (2 : Int32)), .val (.int (0 : Int32)), .val (.ref gw1)] [(.ref gw1)])) rfl rfl (hb hby own_d1_21)
  refine own_go st8 ?_
  show own_Goes p e below (T8.setTop (mkF m 24 #[.val (.int xn), .val (.ref r_1), .val (.int (2 : Int32)), .val (.int (0 : Int32)), .val (.ref gw1)] [(.int (1 : Int32))])) _
  refine own_go (fun t_ k_ => XS.iloadN X8.here hx rfl (hb hby own_d1_24) rfl k_) ?_
  show own_Goes p e below (T8.setTop (mkF m 25 #[.val (.int xn), .val (.ref r_1), .val (.int (2 : Int32)), .val (.int (0 : Int32)), .val (.ref gw1)] [(.int xn), (.int (1 : Int32))])) _
  refine own_go (fun t_ k_ => XS.icmpNo X8.here hx rfl (hb hby own_d1_25) rfl (teq (show ((1 : Int32) = xn) from P0.symm)).2 k_) ?_
  show own_Goes p e below (T8.setTop (mkF m 28 #[.val (.int xn), .val (.ref r_1), .val (.int (2 : Int32)), .val (.int (0 : Int32)), .val (.ref gw1)] [])) _
  refine own_go (fun t_ k_ => XS.aload X8.here hx rfl (hb hby own_d1_28) rfl rfl k_) ?_
  show own_Goes p e below (T8.setTop (mkF m 30 #[.val (.int xn), .val (.ref r_1), .val (.int (2 : Int32)), .val (.int (0 : Int32)), .val (.ref gw1)] [(.ref gw1)])) _
  refine own_endN X8 (v := (some (.ref gw1))) (fun h => by rw [hret] at h; cases h) hlk (by decide) (by decide) ?_ (fun fs hr => retOut X8 hx hret rfl (Or.inr (Or.inr (Or.inr (Or.inr ⟨rfl, rfl, rfl⟩)))) (hb hby own_d1_30) hr)
  show Q_own_nb1 Z xn gw1 gw2 gwA gk h0 n0 _ T8.heap _
  rw [e8]
  exact ⟨N1, K4, rfl⟩
theorem own_d1_31 : decode prog_10_method_5_code 31 = .ok (.iinc 3 1, 3) := by decide +kernel
theorem own_d1_34 : decode prog_10_method_5_code 34 = .ok (.goto (-25), 3) := by decide +kernel
theorem own_ef_own_nb2 (m : MethodId) (xn : Int32) : entryFrame m #[(.int xn)] 5 = mkF m 0 #[.val (.int xn), .unset, .unset, .unset, .unset] [] := by first | (simp [entryFrame, mkF, argsToLocals, Value.category]; done) | rfl
def Q_own_nb2 (Z : State) (xn : Int32) (gw1 : Addr) (gw2 : Addr) (gwA : Addr) (gk : ClassId) (h0 : Heap) (n0 : Nat) (v : Option Value) (h : Heap) (L : List Loc) : Prop := Fr n0 L ∧ Keep h0 h [] ∧ v = some (.ref gw2)
set_option maxRecDepth 65536 in
set_option maxHeartbeats 40000000 in
theorem own_nb2 (l : Launch) (Z : State) (a0 : Array Value) (hw : ∀ d ∈ tables_1, d.before a0 Z = true) (ws : List Jvm.Cond) (xn : Int32) (h0 : Heap) (n0 : Nat) (O0 : Old Z n0 h0) (gw1 : Addr) (gw2 : Addr) (gwA : Addr) (gk : ClassId) (G : GG Z gw1 gw2 gwA gk) (P0 : xn = (2 : Int32)) :
    MetFree l (⟨"com/example/saasy/saasy/koogallerycommon/KooGalleryCipher$EncryptType", "numbered", "(I)Lcom/example/saasy/saasy/koogallerycommon/KooGalleryCipher$EncryptType;"⟩ : MethodName) (head1 (Jvm.Cond.code (⟨"com/example/saasy/saasy/koogallerycommon/KooGalleryCipher$EncryptType", "numbered", "(I)Lcom/example/saasy/saasy/koogallerycommon/KooGalleryCipher$EncryptType;"⟩ : MethodName) prog_10_method_5_code 5 (some (.object "com/example/saasy/saasy/koogallerycommon/KooGalleryCipher$EncryptType")) :: ws) ({ frames := 2, cells := 1, slots := 2, locals := 25 } : Room)) (fun as_ U_ => as_ = #[(.int xn)] ∧ Z.Warmed39 U_.vm ∧ U_.heap = h0) (fun _ _ _ _ _ => True) (fun _ U_ o_ U2_ => ∃ v_ L_, o_ = .returned v_ ∧ Q_own_nb2 Z xn gw1 gw2 gwA gk h0 n0 v_ U2_.heap L_ ∧ FrameEnd U_ o_ U2_ L_ ({ frames := 2, cells := 1, slots := 2, locals := 25 } : Room).cells ({ frames := 2, cells := 1, slots := 2, locals := 25 } : Room).slots) := by
  refine MetFree.of_bodySF (plainFor_of_name own_pn_com_example_saasy_saasy_koogallerycommon_KooGalleryCipher_EncryptType) hisR ?_
  intro p e s m args below meth c s₁ Bd hml0 hP hK
  obtain ⟨rfl, hZ, hh⟩ := hP
  have hx := Bd.exec
  have hby := Bd.bytes
  have hml : c.maxLocals = 5 := hml0
  have hown : s.vm.findClass "com/example/saasy/saasy/koogallerycommon/KooGalleryCipher$EncryptType" = some m.cls := findClass_of_methodNamed Bd.named
  have hnm := (name_of_methodNamed Bd.named Bd.method).1
  have hlk : meth.locks = false := Bd.notSynchronized
  have hret := Bd.returns
  have X0 : Stand p l e ({ frames := 2, cells := 1, slots := 2, locals := 25 } : Room) s m #[(.int xn)] below meth c s₁ [] 0 0 := Stand.of_body Bd
  have e0 : s₁.heap = h0 := by rw [← hh, Bd.state]; rfl
  have N0 := Fr.nil n0
  have z0 : Z.heap.size = n0 := O0.1
  have z1 : n0 ≤ h0.size := z0 ▸ O0.2.1
  have K0 : Keep h0 h0 [] := Keep.refl _ _
  show own_Goes p e below (s₁.setTop (entryFrame m #[(.int xn)] 5)) (own_PostN s (Q_own_nb2 Z xn gw1 gw2 gwA gk h0 n0) ({ frames := 2, cells := 1, slots := 2, locals := 25 } : Room).cells ({ frames := 2, cells := 1, slots := 2, locals := 25 } : Room).slots)
  refine own_cast (own_ef_own_nb2 m xn) ?_
  show own_Goes p e below (s₁.setTop (mkF m 0 #[.val (.int xn), .unset, .unset, .unset, .unset] [])) _
  obtain ⟨G0, G1, G2, G3, G4, G5, G6, G7, G8⟩ := id G
  have ltG1 : gw1 < Z.heap.size := G1.lt
  have ltG3 : gw2 < Z.heap.size := G3.lt
  have ltG5 : gwA < Z.heap.size := G5.lt
  obtain ⟨_, _, ⟨T1, L1, k1, n1⟩, -, X1, ⟨Lc1, hQ1, l1, y1, z1⟩, st1⟩ := Jvm.LawKit.callS X0 hx (y := own_m1) hown (mvT hZ (hw _ (List.mem_of_getElem? (i := 4) rfl))) (mvT hZ (hw _ (List.mem_of_getElem? (i := 5) rfl))) (mvT hZ (hw _ (List.mem_of_getElem? (i := 2) rfl))) (mvT hZ (hw _ (List.mem_of_getElem? (i := 6) rfl))) (by decide) (backOf (W := 0) (own_values l Z a0 hw []  h0 n0 O0 gw1 gw2 gwA gk G) hZ (hw _ (List.mem_of_getElem? (i := 6) rfl)) (hw _ (List.mem_of_getElem? (i := 2) rfl)) (by decide) (by decide)) (g := (mkF m 0 #[.val (.int xn), .unset, .unset, .unset, .unset] [])) rfl (by rw [hml]; rfl) (argsL := []) (rest := []) (lenOf own_pd_0 rfl) rfl (by show 2 * 0 + _ ≤ _; exact Nat.le_of_eq rfl) (hb hby own_d1_0) (fun _ _ => ⟨rfl, e0, (by decide : 0 + 1 ≤ _), (by decide : 0 + 2 ≤ _)⟩)
  dsimp only [Pt.U, Pt.locs, Pt.cells, Pt.slots] at X1 l1 y1 z1 st1 hQ1
  subst l1 y1 z1
  obtain ⟨h1, e1⟩ : ∃ z, T1.heap = z := ⟨_, rfl⟩
  rw [e1] at hQ1
  obtain ⟨Nc1, Kc1, r_1, rfl, c1_0, c1_1, c1_2⟩ := hQ1
  have N1 := Fr.app N0 Nc1
  have O2 := O0.keep Kc1 all0
  have sz3 : h0.size ≤ h1.size := Kc1.1
  have K4 := Keep.trans K0 Kc1 all0
  have ltc1_0 : r_1 < h1.size := c1_0.lt
  have ltc1_1 : r_1 < h1.size := c1_1.lt
  refine own_go st1 ?_
  show own_Goes p e below (T1.setTop (mkF m 3 #[.val (.int xn), .unset, .unset, .unset, .unset] [(.ref r_1)])) _
  refine own_go (fun t_ k_ => XS.astoreN X1.here hx rfl (hb hby own_d1_3) rfl rfl (l' := #[.val (.int xn), .val (.ref r_1), .unset, .unset, .unset]) rfl k_) ?_
  show own_Goes p e below (T1.setTop (mkF m 4 #[.val (.int xn), .val (.ref r_1), .unset, .unset, .unset] [])) _
  refine own_go (fun t_ k_ => XS.aloadN X1.here hx rfl (hb hby own_d1_4) rfl rfl k_) ?_
  show own_Goes p e below (T1.setTop (mkF m 5 #[.val (.int xn), .val (.ref r_1), .unset, .unset, .unset] [(.ref r_1)])) _
  obtain ⟨clu5, Aru5, qu5, Szu5, Ngu5, Hsu5, Gsu5⟩ := id c1_1
  refine own_go (fun t_ k_ => X1.arraylength hx (by rw [e1]; exact Aru5.1) (State.isArrayOf_alike hZ.alike Aru5.2.1) (g := (mkF m 5 #[.val (.int xn), .val (.ref r_1), .unset, .unset, .unset] [(.ref r_1)])) rfl rfl (hb hby own_d1_5) _ k_) ?_
  rw [len_of Szu5 Ngu5]
  show own_Goes p e below (T1.setTop (mkF m 6 #[.val (.int xn), .val (.ref r_1), .unset, .unset, .unset] [(.int (2 : Int32))])) _
  refine own_go (fun t_ k_ => XS.istoreN X1.here hx rfl (hb hby own_d1_6) rfl (l' := #[.val (.int xn), .val (.ref r_1), .val (.int (2 : Int32)), .unset, .unset]) rfl k_) ?_
  show own_Goes p e below (T1.setTop (mkF m 7 #[.val (.int xn), .val (.ref r_1), .val (.int (2 : Int32)), .unset, .unset] [])) _
  refine own_go (fun t_ k_ => XS.iconst X1.here hx rfl (hb hby own_d1_7) k_) ?_
  show own_Goes p e below (T1.setTop (mkF m 8 #[.val (.int xn), .val (.ref r_1), .val (.int (2 : Int32)), .unset, .unset] [(.int (0 : Int32))])) _
  refine own_go (fun t_ k_ => XS.istoreN X1.here hx rfl (hb hby own_d1_8) rfl (l' := #[.val (.int xn), .val (.ref r_1), .val (.int (2 : Int32)), .val (.int (0 : Int32)), .unset]) rfl k_) ?_
  show own_Goes p e below (T1.setTop (mkF m 9 #[.val (.int xn), .val (.ref r_1), .val (.int (2 : Int32)), .val (.int (0 : Int32)), .unset] [])) _
  refine own_go (fun t_ k_ => XS.iloadN X1.here hx rfl (hb hby own_d1_9) rfl k_) ?_
  show own_Goes p e below (T1.setTop (mkF m 10 #[.val (.int xn), .val (.ref r_1), .val (.int (2 : Int32)), .val (.int (0 : Int32)), .unset] [(.int (0 : Int32))])) _
  refine own_go (fun t_ k_ => XS.iloadN X1.here hx rfl (hb hby own_d1_10) rfl k_) ?_
  show own_Goes p e below (T1.setTop (mkF m 11 #[.val (.int xn), .val (.ref r_1), .val (.int (2 : Int32)), .val (.int (0 : Int32)), .unset] [(.int (2 : Int32)), (.int (0 : Int32))])) _
  refine own_go (fun t_ k_ => XS.icmpNo X1.here hx rfl (hb hby own_d1_11) rfl (tlt (show ((0 : Int32) < (2 : Int32)) from by decide)).2.1 k_) ?_
  show own_Goes p e below (T1.setTop (mkF m 14 #[.val (.int xn), .val (.ref r_1), .val (.int (2 : Int32)), .val (.int (0 : Int32)), .unset] [])) _
  refine own_go (fun t_ k_ => XS.aloadN X1.here hx rfl (hb hby own_d1_14) rfl rfl k_) ?_
  show own_Goes p e below (T1.setTop (mkF m 15 #[.val (.int xn), .val (.ref r_1), .val (.int (2 : Int32)), .val (.int (0 : Int32)), .unset] [(.ref r_1)])) _
  refine own_go (fun t_ k_ => XS.iloadN X1.here hx rfl (hb hby own_d1_15) rfl k_) ?_
  show own_Goes p e below (T1.setTop (mkF m 16 #[.val (.int xn), .val (.ref r_1), .val (.int (2 : Int32)), .val (.int (0 : Int32)), .unset] [(.int (0 : Int32)), (.ref r_1)])) _
  obtain ⟨clu6, Aru6, qu6, Szu6, Ngu6, Hsu6, Gsu6⟩ := id c1_1
  have inu6 : ¬ ((0 : Int32) < 0 ∨ clu6.slots.size ≤ ((0 : Int32)).toNatClampNeg) := inb_of Szu6 ⟨by decide, by decide⟩
  have atu6 : clu6.slots[((0 : Int32)).toNatClampNeg]? = some (.ref gw1) := Hsu6.at inu6 rfl
  refine own_go (fun t_ k_ => X1.aaload hx (j := (0 : Int32)) (v := (.ref gw1)) (by rw [e1]; exact Aru6.1) (State.isArrayOf_alike hZ.alike Aru6.2.1) rfl Aru6.2.2 inu6 atu6 (g := (mkF m 16 #[.val (.int xn), .val (.ref r_1), .val (.int (2 : Int32)), .val (.int (0 : Int32)), .unset] [(.int (0 : Int32)), (.ref r_1)])) rfl rfl (hb hby own_d1_16) _ k_) ?_
  show own_Goes p e below (T1.setTop (mkF m 17 #[.val (.int xn), .val (.ref r_1), .val (.int (2 : Int32)), .val (.int (0 : Int32)), .unset] [(.ref gw1)])) _
  refine own_go (fun t_ k_ => XS.astore X1.here hx rfl (hb hby own_d1_17) rfl rfl (l' := #[.val (.int xn), .val (.ref r_1), .val (.int (2 : Int32)), .val (.int (0 : Int32)), .val (.ref gw1)]) rfl k_) ?_
  show own_Goes p e below (T1.setTop (mkF m 19 #[.val (.int xn), .val (.ref r_1), .val (.int (2 : Int32)), .val (.int (0 : Int32)), .val (.ref gw1)] [])) _
  refine own_go (fun t_ k_ => XS.aload X1.here hx rfl (hb hby own_d1_19) rfl rfl k_) ?_
  show own_Goes p e below (T1.setTop (mkF m 21 #[.val (.int xn), .val (.ref r_1), .val (.int (2 : Int32)), .val (.int (0 : Int32)), .val (.ref gw1)] [(.ref gw1)])) _
  have q7 := G7.ext O2.2
  obtain ⟨T8, X8, e8, st8⟩ := getF X1 hx hZ hown (host := "") (Or.inl (hw _ (List.mem_of_getElem? (i := 21) rfl))) Via.refl e1 q7 (g := (mkF m 21 #[.val (.int xn), .val (.ref r_1), .val (.int (2 : Int32)), .val (.int (0 : Int32)), .val (.ref gw1)] [(.ref gw1)])) rfl rfl (hb hby own_d1_21)
  refine own_go st8 ?_
  show own_Goes p e below (T8.setTop (mkF m 24 #[.val (.int xn), .val (.ref r_1), .val (.int (2 : Int32)), .val (.int (0 : Int32)), .val (.ref gw1)] [(.int (1 : Int32))])) _
  refine own_go (fun t_ k_ => XS.iloadN X8.here hx rfl (hb hby own_d1_24) rfl k_) ?_
  show own_Goes p e below (T8.setTop (mkF m 25 #[.val (.int xn), .val (.ref r_1), .val (.int (2 : Int32)), .val (.int (0 : Int32)), .val (.ref gw1)] [(.int xn), (.int (1 : Int32))])) _
  refine own_go (fun t_ k_ => XS.icmpYes X8.here hx rfl (pc0 := 25) (pc' := 31) rfl (hb hby own_d1_25) rfl (feq (show ¬ ((1 : Int32) = xn) from (by rw [P0]; decide))).2 (by decide) (by decide) k_) ?_
  show own_Goes p e below (T8.setTop (mkF m 31 #[.val (.int xn), .val (.ref r_1), .val (.int (2 : Int32)), .val (.int (0 : Int32)), .val (.ref gw1)] [])) _
  refine own_go (fun t_ k_ => XS.iinc X8.here hx rfl (hb hby own_d1_31) rfl (l' := #[.val (.int xn), .val (.ref r_1), .val (.int (2 : Int32)), .val (.int ((0 : Int32) + (1 : Int32))), .val (.ref gw1)]) rfl k_) ?_
  show own_Goes p e below (T8.setTop (mkF m 34 #[.val (.int xn), .val (.ref r_1), .val (.int (2 : Int32)), .val (.int ((0 : Int32) + (1 : Int32))), .val (.ref gw1)] [])) _
  rw [show ((0 : Int32) + (1 : Int32)) = (1 : Int32) from by decide]
  refine own_go (fun t_ k_ => XS.goto X8.here hx rfl (pc0 := 34) (pc' := 9) rfl (hb hby own_d1_34) (by decide) (by decide) k_) ?_
  show own_Goes p e below (T8.setTop (mkF m 9 #[.val (.int xn), .val (.ref r_1), .val (.int (2 : Int32)), .val (.int (1 : Int32)), .val (.ref gw1)] [])) _
  refine own_go (fun t_ k_ => XS.iloadN X8.here hx rfl (hb hby own_d1_9) rfl k_) ?_
  show own_Goes p e below (T8.setTop (mkF m 10 #[.val (.int xn), .val (.ref r_1), .val (.int (2 : Int32)), .val (.int (1 : Int32)), .val (.ref gw1)] [(.int (1 : Int32))])) _
  refine own_go (fun t_ k_ => XS.iloadN X8.here hx rfl (hb hby own_d1_10) rfl k_) ?_
  show own_Goes p e below (T8.setTop (mkF m 11 #[.val (.int xn), .val (.ref r_1), .val (.int (2 : Int32)), .val (.int (1 : Int32)), .val (.ref gw1)] [(.int (2 : Int32)), (.int (1 : Int32))])) _
  refine own_go (fun t_ k_ => XS.icmpNo X8.here hx rfl (hb hby own_d1_11) rfl (tlt (show ((1 : Int32) < (2 : Int32)) from by decide)).2.1 k_) ?_
  show own_Goes p e below (T8.setTop (mkF m 14 #[.val (.int xn), .val (.ref r_1), .val (.int (2 : Int32)), .val (.int (1 : Int32)), .val (.ref gw1)] [])) _
  refine own_go (fun t_ k_ => XS.aloadN X8.here hx rfl (hb hby own_d1_14) rfl rfl k_) ?_
  show own_Goes p e below (T8.setTop (mkF m 15 #[.val (.int xn), .val (.ref r_1), .val (.int (2 : Int32)), .val (.int (1 : Int32)), .val (.ref gw1)] [(.ref r_1)])) _
  refine own_go (fun t_ k_ => XS.iloadN X8.here hx rfl (hb hby own_d1_15) rfl k_) ?_
  show own_Goes p e below (T8.setTop (mkF m 16 #[.val (.int xn), .val (.ref r_1), .val (.int (2 : Int32)), .val (.int (1 : Int32)), .val (.ref gw1)] [(.int (1 : Int32)), (.ref r_1)])) _
  obtain ⟨clu9, Aru9, qu9, Szu9, Ngu9, Hsu9, Gsu9⟩ := id c1_1
  have inu9 : ¬ ((1 : Int32) < 0 ∨ clu9.slots.size ≤ ((1 : Int32)).toNatClampNeg) := inb_of Szu9 ⟨by decide, by decide⟩
  have atu9 : clu9.slots[((1 : Int32)).toNatClampNeg]? = some (.ref gw2) := Hsu9.at inu9 rfl
  refine own_go (fun t_ k_ => X8.aaload hx (j := (1 : Int32)) (v := (.ref gw2)) (by rw [e8]; exact Aru9.1) (State.isArrayOf_alike hZ.alike Aru9.2.1) rfl Aru9.2.2 inu9 atu9 (g := (mkF m 16 #[.val (.int xn), .val (.ref r_1), .val (.int (2 : Int32)), .val (.int (1 : Int32)), .val (.ref gw1)] [(.int (1 : Int32)), (.ref r_1)])) rfl rfl (hb hby own_d1_16) _ k_) ?_
  show own_Goes p e below (T8.setTop (mkF m 17 #[.val (.int xn), .val (.ref r_1), .val (.int (2 : Int32)), .val (.int (1 : Int32)), .val (.ref gw1)] [(.ref gw2)])) _
  refine own_go (fun t_ k_ => XS.astore X8.here hx rfl (hb hby own_d1_17) rfl rfl (l' := #[.val (.int xn), .val (.ref r_1), .val (.int (2 : Int32)), .val (.int (1 : Int32)), .val (.ref gw2)]) rfl k_) ?_
  show own_Goes p e below (T8.setTop (mkF m 19 #[.val (.int xn), .val (.ref r_1), .val (.int (2 : Int32)), .val (.int (1 : Int32)), .val (.ref gw2)] [])) _
  refine own_go (fun t_ k_ => XS.aload X8.here hx rfl (hb hby own_d1_19) rfl rfl k_) ?_
  show own_Goes p e below (T8.setTop (mkF m 21 #[.val (.int xn), .val (.ref r_1), .val (.int (2 : Int32)), .val (.int (1 : Int32)), .val (.ref gw2)] [(.ref gw2)])) _
  have q10 := G8.ext O2.2
  obtain ⟨T11, X11, e11, st11⟩ := getF X8 hx hZ hown (host := "") (Or.inl (hw _ (List.mem_of_getElem? (i := 21) rfl))) Via.refl e8 q10 (g := (mkF m 21 #[.val (.int xn), .val (.ref r_1), .val (.int (2 : Int32)), .val (.int (1 : Int32)), .val (.ref gw2)] [(.ref gw2)])) rfl rfl (hb hby own_d1_21)
  refine own_go st11 ?_
  show own_Goes p e below (T11.setTop (mkF m 24 #[.val (.int xn), .val (.ref r_1), .val (.int (2 : Int32)), .val (.int (1 : Int32)), .val (.ref gw2)] [(.int (2 : Int32))])) _
  refine own_go (fun t_ k_ => XS.iloadN X11.here hx rfl (hb hby own_d1_24) rfl k_) ?_
  show own_Goes p e below (T11.setTop (mkF m 25 #[.val (.int xn), .val (.ref r_1), .val (.int (2 : Int32)), .val (.int (1 : Int32)), .val (.ref gw2)] [(.int xn), (.int (2 : Int32))])) _
  refine own_go (fun t_ k_ => XS.icmpNo X11.here hx rfl (hb hby own_d1_25) rfl (teq (show ((2 : Int32) = xn) from P0.symm)).2 k_) ?_
  show own_Goes p e below (T11.setTop (mkF m 28 #[.val (.int xn), .val (.ref r_1), .val (.int (2 : Int32)), .val (.int (1 : Int32)), .val (.ref gw2)] [])) _
  refine own_go (fun t_ k_ => XS.aload X11.here hx rfl (hb hby own_d1_28) rfl rfl k_) ?_
  show own_Goes p e below (T11.setTop (mkF m 30 #[.val (.int xn), .val (.ref r_1), .val (.int (2 : Int32)), .val (.int (1 : Int32)), .val (.ref gw2)] [(.ref gw2)])) _
  refine own_endN X11 (v := (some (.ref gw2))) (fun h => by rw [hret] at h; cases h) hlk (by decide) (by decide) ?_ (fun fs hr => retOut X11 hx hret rfl (Or.inr (Or.inr (Or.inr (Or.inr ⟨rfl, rfl, rfl⟩)))) (hb hby own_d1_30) hr)
  show Q_own_nb2 Z xn gw1 gw2 gwA gk h0 n0 _ T11.heap _
  rw [e11]
  exact ⟨N1, K4, rfl⟩
theorem own_d1_37 : decode prog_10_method_5_code 37 = .ok (.aconst_null, 1) := by decide +kernel
theorem own_d1_38 : decode prog_10_method_5_code 38 = .ok (.areturn, 1) := by decide +kernel
theorem own_ef_own_nb0 (m : MethodId) (xn : Int32) : entryFrame m #[(.int xn)] 5 = mkF m 0 #[.val (.int xn), .unset, .unset, .unset, .unset] [] := by first | (simp [entryFrame, mkF, argsToLocals, Value.category]; done) | rfl
def Q_own_nb0 (Z : State) (xn : Int32) (gw1 : Addr) (gw2 : Addr) (gwA : Addr) (gk : ClassId) (h0 : Heap) (n0 : Nat) (v : Option Value) (h : Heap) (L : List Loc) : Prop := Fr n0 L ∧ Keep h0 h [] ∧ v = some .null
set_option maxRecDepth 65536 in
set_option maxHeartbeats 40000000 in
theorem own_nb0 (l : Launch) (Z : State) (a0 : Array Value) (hw : ∀ d ∈ tables_1, d.before a0 Z = true) (ws : List Jvm.Cond) (xn : Int32) (h0 : Heap) (n0 : Nat) (O0 : Old Z n0 h0) (gw1 : Addr) (gw2 : Addr) (gwA : Addr) (gk : ClassId) (G : GG Z gw1 gw2 gwA gk) (P0 : ¬ xn = (1 : Int32)) (P1 : ¬ xn = (2 : Int32)) :
    MetFree l (⟨"com/example/saasy/saasy/koogallerycommon/KooGalleryCipher$EncryptType", "numbered", "(I)Lcom/example/saasy/saasy/koogallerycommon/KooGalleryCipher$EncryptType;"⟩ : MethodName) (head1 (Jvm.Cond.code (⟨"com/example/saasy/saasy/koogallerycommon/KooGalleryCipher$EncryptType", "numbered", "(I)Lcom/example/saasy/saasy/koogallerycommon/KooGalleryCipher$EncryptType;"⟩ : MethodName) prog_10_method_5_code 5 (some (.object "com/example/saasy/saasy/koogallerycommon/KooGalleryCipher$EncryptType")) :: ws) ({ frames := 2, cells := 1, slots := 2, locals := 25 } : Room)) (fun as_ U_ => as_ = #[(.int xn)] ∧ Z.Warmed39 U_.vm ∧ U_.heap = h0) (fun _ _ _ _ _ => True) (fun _ U_ o_ U2_ => ∃ v_ L_, o_ = .returned v_ ∧ Q_own_nb0 Z xn gw1 gw2 gwA gk h0 n0 v_ U2_.heap L_ ∧ FrameEnd U_ o_ U2_ L_ ({ frames := 2, cells := 1, slots := 2, locals := 25 } : Room).cells ({ frames := 2, cells := 1, slots := 2, locals := 25 } : Room).slots) := by
  refine MetFree.of_bodySF (plainFor_of_name own_pn_com_example_saasy_saasy_koogallerycommon_KooGalleryCipher_EncryptType) hisR ?_
  intro p e s m args below meth c s₁ Bd hml0 hP hK
  obtain ⟨rfl, hZ, hh⟩ := hP
  have hx := Bd.exec
  have hby := Bd.bytes
  have hml : c.maxLocals = 5 := hml0
  have hown : s.vm.findClass "com/example/saasy/saasy/koogallerycommon/KooGalleryCipher$EncryptType" = some m.cls := findClass_of_methodNamed Bd.named
  have hnm := (name_of_methodNamed Bd.named Bd.method).1
  have hlk : meth.locks = false := Bd.notSynchronized
  have hret := Bd.returns
  have X0 : Stand p l e ({ frames := 2, cells := 1, slots := 2, locals := 25 } : Room) s m #[(.int xn)] below meth c s₁ [] 0 0 := Stand.of_body Bd
  have e0 : s₁.heap = h0 := by rw [← hh, Bd.state]; rfl
  have N0 := Fr.nil n0
  have z0 : Z.heap.size = n0 := O0.1
  have z1 : n0 ≤ h0.size := z0 ▸ O0.2.1
  have K0 : Keep h0 h0 [] := Keep.refl _ _
  show own_Goes p e below (s₁.setTop (entryFrame m #[(.int xn)] 5)) (own_PostN s (Q_own_nb0 Z xn gw1 gw2 gwA gk h0 n0) ({ frames := 2, cells := 1, slots := 2, locals := 25 } : Room).cells ({ frames := 2, cells := 1, slots := 2, locals := 25 } : Room).slots)
  refine own_cast (own_ef_own_nb0 m xn) ?_
  show own_Goes p e below (s₁.setTop (mkF m 0 #[.val (.int xn), .unset, .unset, .unset, .unset] [])) _
  obtain ⟨G0, G1, G2, G3, G4, G5, G6, G7, G8⟩ := id G
  have ltG1 : gw1 < Z.heap.size := G1.lt
  have ltG3 : gw2 < Z.heap.size := G3.lt
  have ltG5 : gwA < Z.heap.size := G5.lt
  obtain ⟨_, _, ⟨T1, L1, k1, n1⟩, -, X1, ⟨Lc1, hQ1, l1, y1, z1⟩, st1⟩ := Jvm.LawKit.callS X0 hx (y := own_m1) hown (mvT hZ (hw _ (List.mem_of_getElem? (i := 4) rfl))) (mvT hZ (hw _ (List.mem_of_getElem? (i := 5) rfl))) (mvT hZ (hw _ (List.mem_of_getElem? (i := 2) rfl))) (mvT hZ (hw _ (List.mem_of_getElem? (i := 6) rfl))) (by decide) (backOf (W := 0) (own_values l Z a0 hw []  h0 n0 O0 gw1 gw2 gwA gk G) hZ (hw _ (List.mem_of_getElem? (i := 6) rfl)) (hw _ (List.mem_of_getElem? (i := 2) rfl)) (by decide) (by decide)) (g := (mkF m 0 #[.val (.int xn), .unset, .unset, .unset, .unset] [])) rfl (by rw [hml]; rfl) (argsL := []) (rest := []) (lenOf own_pd_0 rfl) rfl (by show 2 * 0 + _ ≤ _; exact Nat.le_of_eq rfl) (hb hby own_d1_0) (fun _ _ => ⟨rfl, e0, (by decide : 0 + 1 ≤ _), (by decide : 0 + 2 ≤ _)⟩)
  dsimp only [Pt.U, Pt.locs, Pt.cells, Pt.slots] at X1 l1 y1 z1 st1 hQ1
  subst l1 y1 z1
  obtain ⟨h1, e1⟩ : ∃ z, T1.heap = z := ⟨_, rfl⟩
  rw [e1] at hQ1
  obtain ⟨Nc1, Kc1, r_1, rfl, c1_0, c1_1, c1_2⟩ := hQ1
  have N1 := Fr.app N0 Nc1
  have O2 := O0.keep Kc1 all0
  have sz3 : h0.size ≤ h1.size := Kc1.1
  have K4 := Keep.trans K0 Kc1 all0
  have ltc1_0 : r_1 < h1.size := c1_0.lt
  have ltc1_1 : r_1 < h1.size := c1_1.lt
  refine own_go st1 ?_
  show own_Goes p e below (T1.setTop (mkF m 3 #[.val (.int xn), .unset, .unset, .unset, .unset] [(.ref r_1)])) _
  refine own_go (fun t_ k_ => XS.astoreN X1.here hx rfl (hb hby own_d1_3) rfl rfl (l' := #[.val (.int xn), .val (.ref r_1), .unset, .unset, .unset]) rfl k_) ?_
  show own_Goes p e below (T1.setTop (mkF m 4 #[.val (.int xn), .val (.ref r_1), .unset, .unset, .unset] [])) _
  refine own_go (fun t_ k_ => XS.aloadN X1.here hx rfl (hb hby own_d1_4) rfl rfl k_) ?_
  show own_Goes p e below (T1.setTop (mkF m 5 #[.val (.int xn), .val (.ref r_1), .unset, .unset, .unset] [(.ref r_1)])) _
  obtain ⟨clu5, Aru5, qu5, Szu5, Ngu5, Hsu5, Gsu5⟩ := id c1_1
  refine own_go (fun t_ k_ => X1.arraylength hx (by rw [e1]; exact Aru5.1) (State.isArrayOf_alike hZ.alike Aru5.2.1) (g := (mkF m 5 #[.val (.int xn), .val (.ref r_1), .unset, .unset, .unset] [(.ref r_1)])) rfl rfl (hb hby own_d1_5) _ k_) ?_
  rw [len_of Szu5 Ngu5]
  show own_Goes p e below (T1.setTop (mkF m 6 #[.val (.int xn), .val (.ref r_1), .unset, .unset, .unset] [(.int (2 : Int32))])) _
  refine own_go (fun t_ k_ => XS.istoreN X1.here hx rfl (hb hby own_d1_6) rfl (l' := #[.val (.int xn), .val (.ref r_1), .val (.int (2 : Int32)), .unset, .unset]) rfl k_) ?_
  show own_Goes p e below (T1.setTop (mkF m 7 #[.val (.int xn), .val (.ref r_1), .val (.int (2 : Int32)), .unset, .unset] [])) _
  refine own_go (fun t_ k_ => XS.iconst X1.here hx rfl (hb hby own_d1_7) k_) ?_
  show own_Goes p e below (T1.setTop (mkF m 8 #[.val (.int xn), .val (.ref r_1), .val (.int (2 : Int32)), .unset, .unset] [(.int (0 : Int32))])) _
  refine own_go (fun t_ k_ => XS.istoreN X1.here hx rfl (hb hby own_d1_8) rfl (l' := #[.val (.int xn), .val (.ref r_1), .val (.int (2 : Int32)), .val (.int (0 : Int32)), .unset]) rfl k_) ?_
  show own_Goes p e below (T1.setTop (mkF m 9 #[.val (.int xn), .val (.ref r_1), .val (.int (2 : Int32)), .val (.int (0 : Int32)), .unset] [])) _
  refine own_go (fun t_ k_ => XS.iloadN X1.here hx rfl (hb hby own_d1_9) rfl k_) ?_
  show own_Goes p e below (T1.setTop (mkF m 10 #[.val (.int xn), .val (.ref r_1), .val (.int (2 : Int32)), .val (.int (0 : Int32)), .unset] [(.int (0 : Int32))])) _
  refine own_go (fun t_ k_ => XS.iloadN X1.here hx rfl (hb hby own_d1_10) rfl k_) ?_
  show own_Goes p e below (T1.setTop (mkF m 11 #[.val (.int xn), .val (.ref r_1), .val (.int (2 : Int32)), .val (.int (0 : Int32)), .unset] [(.int (2 : Int32)), (.int (0 : Int32))])) _
  refine own_go (fun t_ k_ => XS.icmpNo X1.here hx rfl (hb hby own_d1_11) rfl (tlt (show ((0 : Int32) < (2 : Int32)) from by decide)).2.1 k_) ?_
  show own_Goes p e below (T1.setTop (mkF m 14 #[.val (.int xn), .val (.ref r_1), .val (.int (2 : Int32)), .val (.int (0 : Int32)), .unset] [])) _
  refine own_go (fun t_ k_ => XS.aloadN X1.here hx rfl (hb hby own_d1_14) rfl rfl k_) ?_
  show own_Goes p e below (T1.setTop (mkF m 15 #[.val (.int xn), .val (.ref r_1), .val (.int (2 : Int32)), .val (.int (0 : Int32)), .unset] [(.ref r_1)])) _
  refine own_go (fun t_ k_ => XS.iloadN X1.here hx rfl (hb hby own_d1_15) rfl k_) ?_
  show own_Goes p e below (T1.setTop (mkF m 16 #[.val (.int xn), .val (.ref r_1), .val (.int (2 : Int32)), .val (.int (0 : Int32)), .unset] [(.int (0 : Int32)), (.ref r_1)])) _
  obtain ⟨clu6, Aru6, qu6, Szu6, Ngu6, Hsu6, Gsu6⟩ := id c1_1
  have inu6 : ¬ ((0 : Int32) < 0 ∨ clu6.slots.size ≤ ((0 : Int32)).toNatClampNeg) := inb_of Szu6 ⟨by decide, by decide⟩
  have atu6 : clu6.slots[((0 : Int32)).toNatClampNeg]? = some (.ref gw1) := Hsu6.at inu6 rfl
  refine own_go (fun t_ k_ => X1.aaload hx (j := (0 : Int32)) (v := (.ref gw1)) (by rw [e1]; exact Aru6.1) (State.isArrayOf_alike hZ.alike Aru6.2.1) rfl Aru6.2.2 inu6 atu6 (g := (mkF m 16 #[.val (.int xn), .val (.ref r_1), .val (.int (2 : Int32)), .val (.int (0 : Int32)), .unset] [(.int (0 : Int32)), (.ref r_1)])) rfl rfl (hb hby own_d1_16) _ k_) ?_
  show own_Goes p e below (T1.setTop (mkF m 17 #[.val (.int xn), .val (.ref r_1), .val (.int (2 : Int32)), .val (.int (0 : Int32)), .unset] [(.ref gw1)])) _
  refine own_go (fun t_ k_ => XS.astore X1.here hx rfl (hb hby own_d1_17) rfl rfl (l' := #[.val (.int xn), .val (.ref r_1), .val (.int (2 : Int32)), .val (.int (0 : Int32)), .val (.ref gw1)]) rfl k_) ?_
  show own_Goes p e below (T1.setTop (mkF m 19 #[.val (.int xn), .val (.ref r_1), .val (.int (2 : Int32)), .val (.int (0 : Int32)), .val (.ref gw1)] [])) _
  refine own_go (fun t_ k_ => XS.aload X1.here hx rfl (hb hby own_d1_19) rfl rfl k_) ?_
  show own_Goes p e below (T1.setTop (mkF m 21 #[.val (.int xn), .val (.ref r_1), .val (.int (2 : Int32)), .val (.int (0 : Int32)), .val (.ref gw1)] [(.ref gw1)])) _
  have q7 := G7.ext O2.2
  obtain ⟨T8, X8, e8, st8⟩ := getF X1 hx hZ hown (host := "") (Or.inl (hw _ (List.mem_of_getElem? (i := 21) rfl))) Via.refl e1 q7 (g := (mkF m 21 #[.val (.int xn), .val (.ref r_1), .val (.int (2 : Int32)), .val (.int (0 : Int32)), .val (.ref gw1)] [(.ref gw1)])) rfl rfl (hb hby own_d1_21)
  refine own_go st8 ?_
  show own_Goes p e below (T8.setTop (mkF m 24 #[.val (.int xn), .val (.ref r_1), .val (.int (2 : Int32)), .val (.int (0 : Int32)), .val (.ref gw1)] [(.int (1 : Int32))])) _
  refine own_go (fun t_ k_ => XS.iloadN X8.here hx rfl (hb hby own_d1_24) rfl k_) ?_
  show own_Goes p e below (T8.setTop (mkF m 25 #[.val (.int xn), .val (.ref r_1), .val (.int (2 : Int32)), .val (.int (0 : Int32)), .val (.ref gw1)] [(.int xn), (.int (1 : Int32))])) _
  refine own_go (fun t_ k_ => XS.icmpYes X8.here hx rfl (pc0 := 25) (pc' := 31) rfl (hb hby own_d1_25) rfl (feq (show ¬ ((1 : Int32) = xn) from (fun q => P0 q.symm))).2 (by decide) (by decide) k_) ?_
  show own_Goes p e below (T8.setTop (mkF m 31 #[.val (.int xn), .val (.ref r_1), .val (.int (2 : Int32)), .val (.int (0 : Int32)), .val (.ref gw1)] [])) _
  refine own_go (fun t_ k_ => XS.iinc X8.here hx rfl (hb hby own_d1_31) rfl (l' := #[.val (.int xn), .val (.ref r_1), .val (.int (2 : Int32)), .val (.int ((0 : Int32) + (1 : Int32))), .val (.ref gw1)]) rfl k_) ?_
  show own_Goes p e below (T8.setTop (mkF m 34 #[.val (.int xn), .val (.ref r_1), .val (.int (2 : Int32)), .val (.int ((0 : Int32) + (1 : Int32))), .val (.ref gw1)] [])) _
  rw [show ((0 : Int32) + (1 : Int32)) = (1 : Int32) from by decide]
  refine own_go (fun t_ k_ => XS.goto X8.here hx rfl (pc0 := 34) (pc' := 9) rfl (hb hby own_d1_34) (by decide) (by decide) k_) ?_
  show own_Goes p e below (T8.setTop (mkF m 9 #[.val (.int xn), .val (.ref r_1), .val (.int (2 : Int32)), .val (.int (1 : Int32)), .val (.ref gw1)] [])) _
  refine own_go (fun t_ k_ => XS.iloadN X8.here hx rfl (hb hby own_d1_9) rfl k_) ?_
  show own_Goes p e below (T8.setTop (mkF m 10 #[.val (.int xn), .val (.ref r_1), .val (.int (2 : Int32)), .val (.int (1 : Int32)), .val (.ref gw1)] [(.int (1 : Int32))])) _
  refine own_go (fun t_ k_ => XS.iloadN X8.here hx rfl (hb hby own_d1_10) rfl k_) ?_
  show own_Goes p e below (T8.setTop (mkF m 11 #[.val (.int xn), .val (.ref r_1), .val (.int (2 : Int32)), .val (.int (1 : Int32)), .val (.ref gw1)] [(.int (2 : Int32)), (.int (1 : Int32))])) _
  refine own_go (fun t_ k_ => XS.icmpNo X8.here hx rfl (hb hby own_d1_11) rfl (tlt (show ((1 : Int32) < (2 : Int32)) from by decide)).2.1 k_) ?_
  show own_Goes p e below (T8.setTop (mkF m 14 #[.val (.int xn), .val (.ref r_1), .val (.int (2 : Int32)), .val (.int (1 : Int32)), .val (.ref gw1)] [])) _
  refine own_go (fun t_ k_ => XS.aloadN X8.here hx rfl (hb hby own_d1_14) rfl rfl k_) ?_
  show own_Goes p e below (T8.setTop (mkF m 15 #[.val (.int xn), .val (.ref r_1), .val (.int (2 : Int32)), .val (.int (1 : Int32)), .val (.ref gw1)] [(.ref r_1)])) _
  refine own_go (fun t_ k_ => XS.iloadN X8.here hx rfl (hb hby own_d1_15) rfl k_) ?_
  show own_Goes p e below (T8.setTop (mkF m 16 #[.val (.int xn), .val (.ref r_1), .val (.int (2 : Int32)), .val (.int (1 : Int32)), .val (.ref gw1)] [(.int (1 : Int32)), (.ref r_1)])) _
  obtain ⟨clu9, Aru9, qu9, Szu9, Ngu9, Hsu9, Gsu9⟩ := id c1_1
  have inu9 : ¬ ((1 : Int32) < 0 ∨ clu9.slots.size ≤ ((1 : Int32)).toNatClampNeg) := inb_of Szu9 ⟨by decide, by decide⟩
  have atu9 : clu9.slots[((1 : Int32)).toNatClampNeg]? = some (.ref gw2) := Hsu9.at inu9 rfl
  refine own_go (fun t_ k_ => X8.aaload hx (j := (1 : Int32)) (v := (.ref gw2)) (by rw [e8]; exact Aru9.1) (State.isArrayOf_alike hZ.alike Aru9.2.1) rfl Aru9.2.2 inu9 atu9 (g := (mkF m 16 #[.val (.int xn), .val (.ref r_1), .val (.int (2 : Int32)), .val (.int (1 : Int32)), .val (.ref gw1)] [(.int (1 : Int32)), (.ref r_1)])) rfl rfl (hb hby own_d1_16) _ k_) ?_
  show own_Goes p e below (T8.setTop (mkF m 17 #[.val (.int xn), .val (.ref r_1), .val (.int (2 : Int32)), .val (.int (1 : Int32)), .val (.ref gw1)] [(.ref gw2)])) _
  refine own_go (fun t_ k_ => XS.astore X8.here hx rfl (hb hby own_d1_17) rfl rfl (l' := #[.val (.int xn), .val (.ref r_1), .val (.int (2 : Int32)), .val (.int (1 : Int32)), .val (.ref gw2)]) rfl k_) ?_
  show own_Goes p e below (T8.setTop (mkF m 19 #[.val (.int xn), .val (.ref r_1), .val (.int (2 : Int32)), .val (.int (1 : Int32)), .val (.ref gw2)] [])) _
  refine own_go (fun t_ k_ => XS.aload X8.here hx rfl (hb hby own_d1_19) rfl rfl k_) ?_
  show own_Goes p e below (T8.setTop (mkF m 21 #[.val (.int xn), .val (.ref r_1), .val (.int (2 : Int32)), .val (.int (1 : Int32)), .val (.ref gw2)] [(.ref gw2)])) _
  have q10 := G8.ext O2.2
  obtain ⟨T11, X11, e11, st11⟩ := getF X8 hx hZ hown (host := "") (Or.inl (hw _ (List.mem_of_getElem? (i := 21) rfl))) Via.refl e8 q10 (g := (mkF m 21 #[.val (.int xn), .val (.ref r_1), .val (.int (2 : Int32)), .val (.int (1 : Int32)), .val (.ref gw2)] [(.ref gw2)])) rfl rfl (hb hby own_d1_21)
  refine own_go st11 ?_
  show own_Goes p e below (T11.setTop (mkF m 24 #[.val (.int xn), .val (.ref r_1), .val (.int (2 : Int32)), .val (.int (1 : Int32)), .val (.ref gw2)] [(.int (2 : Int32))])) _
  refine own_go (fun t_ k_ => XS.iloadN X11.here hx rfl (hb hby own_d1_24) rfl k_) ?_
  show own_Goes p e below (T11.setTop (mkF m 25 #[.val (.int xn), .val (.ref r_1), .val (.int (2 : Int32)), .val (.int (1 : Int32)), .val (.ref gw2)] [(.int xn), (.int (2 : Int32))])) _
  refine own_go (fun t_ k_ => XS.icmpYes X11.here hx rfl (pc0 := 25) (pc' := 31) rfl (hb hby own_d1_25) rfl (feq (show ¬ ((2 : Int32) = xn) from (fun q => P1 q.symm))).2 (by decide) (by decide) k_) ?_
  show own_Goes p e below (T11.setTop (mkF m 31 #[.val (.int xn), .val (.ref r_1), .val (.int (2 : Int32)), .val (.int (1 : Int32)), .val (.ref gw2)] [])) _
  refine own_go (fun t_ k_ => XS.iinc X11.here hx rfl (hb hby own_d1_31) rfl (l' := #[.val (.int xn), .val (.ref r_1), .val (.int (2 : Int32)), .val (.int ((1 : Int32) + (1 : Int32))), .val (.ref gw2)]) rfl k_) ?_
  show own_Goes p e below (T11.setTop (mkF m 34 #[.val (.int xn), .val (.ref r_1), .val (.int (2 : Int32)), .val (.int ((1 : Int32) + (1 : Int32))), .val (.ref gw2)] [])) _
  rw [show ((1 : Int32) + (1 : Int32)) = (2 : Int32) from by decide]
  refine own_go (fun t_ k_ => XS.goto X11.here hx rfl (pc0 := 34) (pc' := 9) rfl (hb hby own_d1_34) (by decide) (by decide) k_) ?_
  show own_Goes p e below (T11.setTop (mkF m 9 #[.val (.int xn), .val (.ref r_1), .val (.int (2 : Int32)), .val (.int (2 : Int32)), .val (.ref gw2)] [])) _
  refine own_go (fun t_ k_ => XS.iloadN X11.here hx rfl (hb hby own_d1_9) rfl k_) ?_
  show own_Goes p e below (T11.setTop (mkF m 10 #[.val (.int xn), .val (.ref r_1), .val (.int (2 : Int32)), .val (.int (2 : Int32)), .val (.ref gw2)] [(.int (2 : Int32))])) _
  refine own_go (fun t_ k_ => XS.iloadN X11.here hx rfl (hb hby own_d1_10) rfl k_) ?_
  show own_Goes p e below (T11.setTop (mkF m 11 #[.val (.int xn), .val (.ref r_1), .val (.int (2 : Int32)), .val (.int (2 : Int32)), .val (.ref gw2)] [(.int (2 : Int32)), (.int (2 : Int32))])) _
  refine own_go (fun t_ k_ => XS.icmpYes X11.here hx rfl (pc0 := 11) (pc' := 37) rfl (hb hby own_d1_11) rfl (flt (show ¬ ((2 : Int32) < (2 : Int32)) from by decide)).2.1 (by decide) (by decide) k_) ?_
  show own_Goes p e below (T11.setTop (mkF m 37 #[.val (.int xn), .val (.ref r_1), .val (.int (2 : Int32)), .val (.int (2 : Int32)), .val (.ref gw2)] [])) _
  refine own_go (fun t_ k_ => XS.aconstNull X11.here hx rfl (hb hby own_d1_37) k_) ?_
  show own_Goes p e below (T11.setTop (mkF m 38 #[.val (.int xn), .val (.ref r_1), .val (.int (2 : Int32)), .val (.int (2 : Int32)), .val (.ref gw2)] [.null])) _
  refine own_endN X11 (v := (some .null)) (fun h => by rw [hret] at h; cases h) hlk (by decide) (by decide) ?_ (fun fs hr => retOut X11 hx hret rfl (Or.inr (Or.inr (Or.inr (Or.inr ⟨rfl, rfl, rfl⟩)))) (hb hby own_d1_38) hr)
  show Q_own_nb0 Z xn gw1 gw2 gwA gk h0 n0 _ T11.heap _
  rw [e11]
  exact ⟨N1, K4, rfl⟩
theorem own_d3_0 : decode prog_10_method_4_code 0 = .ok (.aload_n 0, 1) := by decide +kernel
theorem own_d3_1 : decode prog_10_method_4_code 1 = .ok (.getfield 29, 3) := by decide +kernel
theorem own_d3_4 : decode prog_10_method_4_code 4 = .ok (.ireturn, 1) := by decide +kernel
theorem own_ef_own_number (m : MethodId) (xa : Addr) : entryFrame m #[(.ref xa)] 1 = mkF m 0 #[.val (.ref xa)] [] := by first | (simp [entryFrame, mkF, argsToLocals, Value.category]; done) | rfl
def Q_own_number (Z : State) (xa : Addr) (xv : Int32) (h0 : Heap) (n0 : Nat) (v : Option Value) (h : Heap) (L : List Loc) : Prop := Fr n0 L ∧ h = h0 ∧ v = some (.int xv)
set_option maxRecDepth 65536 in
set_option maxHeartbeats 40000000 in
theorem own_number (l : Launch) (Z : State) (a0 : Array Value) (hw : ∀ d ∈ tables_1, d.before a0 Z = true) (ws : List Jvm.Cond) (xa : Addr) (xv : Int32) (h0 : Heap) (n0 : Nat) (O0 : Old Z n0 h0) (P0 : Fld Z h0 xa "com/example/saasy/saasy/koogallerycommon/KooGalleryCipher$EncryptType" "number" "I" (.int xv)) :
    MetFree l (⟨"com/example/saasy/saasy/koogallerycommon/KooGalleryCipher$EncryptType", "number", "()I"⟩ : MethodName) (head1 (Jvm.Cond.code (⟨"com/example/saasy/saasy/koogallerycommon/KooGalleryCipher$EncryptType", "number", "()I"⟩ : MethodName) prog_10_method_4_code 1 (some .int) :: ws) ({ frames := 0, cells := 0, slots := 0, locals := 0 } : Room)) (fun as_ U_ => as_ = #[(.ref xa)] ∧ Z.Warmed39 U_.vm ∧ U_.heap = h0) (fun _ _ _ _ _ => True) (fun _ U_ o_ U2_ => ∃ v_ L_, o_ = .returned v_ ∧ Q_own_number Z xa xv h0 n0 v_ U2_.heap L_ ∧ FrameEnd U_ o_ U2_ L_ ({ frames := 0, cells := 0, slots := 0, locals := 0 } : Room).cells ({ frames := 0, cells := 0, slots := 0, locals := 0 } : Room).slots) := by
  refine MetFree.of_bodySF (plainFor_of_name own_pn_com_example_saasy_saasy_koogallerycommon_KooGalleryCipher_EncryptType) hisR ?_
  intro p e s m args below meth c s₁ Bd hml0 hP hK
  obtain ⟨rfl, hZ, hh⟩ := hP
  have hx := Bd.exec
  have hby := Bd.bytes
  have hml : c.maxLocals = 1 := hml0
  have hown : s.vm.findClass "com/example/saasy/saasy/koogallerycommon/KooGalleryCipher$EncryptType" = some m.cls := findClass_of_methodNamed Bd.named
  have hnm := (name_of_methodNamed Bd.named Bd.method).1
  have hlk : meth.locks = false := Bd.notSynchronized
  have hret := Bd.returns
  have X0 : Stand p l e ({ frames := 0, cells := 0, slots := 0, locals := 0 } : Room) s m #[(.ref xa)] below meth c s₁ [] 0 0 := Stand.of_body Bd
  have e0 : s₁.heap = h0 := by rw [← hh, Bd.state]; rfl
  have N0 := Fr.nil n0
  have z0 : Z.heap.size = n0 := O0.1
  have z1 : n0 ≤ h0.size := z0 ▸ O0.2.1
  show own_Goes p e below (s₁.setTop (entryFrame m #[(.ref xa)] 1)) (own_PostN s (Q_own_number Z xa xv h0 n0) ({ frames := 0, cells := 0, slots := 0, locals := 0 } : Room).cells ({ frames := 0, cells := 0, slots := 0, locals := 0 } : Room).slots)
  refine own_cast (own_ef_own_number m xa) ?_
  show own_Goes p e below (s₁.setTop (mkF m 0 #[.val (.ref xa)] [])) _
  refine own_go (fun t_ k_ => XS.aloadN X0.here hx rfl (hb hby own_d3_0) rfl rfl k_) ?_
  show own_Goes p e below (s₁.setTop (mkF m 1 #[.val (.ref xa)] [(.ref xa)])) _
  obtain ⟨T1, X1, e1, st1⟩ := getF X0 hx hZ hown (host := "") (Or.inl (hw _ (List.mem_of_getElem? (i := 21) rfl))) Via.refl e0 P0 (g := (mkF m 1 #[.val (.ref xa)] [(.ref xa)])) rfl rfl (hb hby own_d3_1)
  refine own_go st1 ?_
  show own_Goes p e below (T1.setTop (mkF m 4 #[.val (.ref xa)] [(.int xv)])) _
  refine own_endN X1 (v := (some (.int xv))) (fun h => by rw [hret] at h; cases h) hlk (by decide) (by decide) ?_ (fun fs hr => retOut X1 hx hret rfl (Or.inl ⟨rfl, Or.inl rfl, _, rfl⟩) (hb hby own_d3_4) hr)
  show Q_own_number Z xa xv h0 n0 _ T1.heap _
  rw [e1]
  exact ⟨N0, rfl, rfl⟩
theorem own_pd_2 : parseMethodDescriptor "(I)Lcom/example/saasy/saasy/koogallerycommon/KooGalleryCipher$EncryptType;" = some ⟨[.int], some (.object "com/example/saasy/saasy/koogallerycommon/KooGalleryCipher$EncryptType")⟩ := by decide +kernel
abbrev own_m3 : MethodName := ⟨"com/example/saasy/saasy/koogallerycommon/KooGalleryCipher$EncryptType", "numbered", "(I)Lcom/example/saasy/saasy/koogallerycommon/KooGalleryCipher$EncryptType;"⟩
theorem own_pd_4 : parseMethodDescriptor "()I" = some ⟨[], some .int⟩ := by decide +kernel
abbrev own_m5 : MethodName := ⟨"com/example/saasy/saasy/koogallerycommon/KooGalleryCipher$EncryptType", "number", "()I"⟩
theorem own_pn_com_example_saasy_saasy_koogallerycommon_EncryptTypeNumberedPinLaw : plainName "com/example/saasy/saasy/koogallerycommon/EncryptTypeNumberedPinLaw" = true := by first | (simp [plainName, overriddenIn]; done) | decide +kernel
theorem own_ef_rm0 (m : MethodId) (x0 : Int32) (x1 : Int32) : entryFrame m #[(.int x0), (.int x1)] maxLocals = mkF m 0 #[.val (.int x0), .val (.int x1), .unset, .unset, .unset, .unset] [] := by first | (simp [entryFrame, mkF, argsToLocals, Value.category, maxLocals]; done) | rfl
def Q_rm0 (Z : State) (x0 : Int32) (x1 : Int32) (gw1 : Addr) (gw2 : Addr) (gwA : Addr) (gk : ClassId) (h0 : Heap) (n0 : Nat) (v : Option Value) (h : Heap) (L : List Loc) : Prop := Fr n0 L ∧ True ∧ v = some (.int (1 : Int32))
set_option maxRecDepth 65536 in
set_option maxHeartbeats 40000000 in
theorem rm0 (l : Launch) (Z : State) (a0 : Array Value) (hw : ∀ d ∈ tables_1, d.before a0 Z = true) (ws : List Jvm.Cond) (x0 : Int32) (x1 : Int32) (h0 : Heap) (n0 : Nat) (O0 : Old Z n0 h0) (gw1 : Addr) (gw2 : Addr) (gwA : Addr) (gk : ClassId) (G : GG Z gw1 gw2 gwA gk) :
    MetFree l x (head1 (Jvm.Cond.code x code maxLocals ret :: ws) room_1) (fun as_ U_ => as_ = #[(.int x0), (.int x1)] ∧ Z.Warmed39 U_.vm ∧ U_.heap = h0) (fun _ _ _ _ _ => True) (fun _ U_ o_ U2_ => ∃ v_ L_, o_ = .returned v_ ∧ Q_rm0 Z x0 x1 gw1 gw2 gwA gk h0 n0 v_ U2_.heap L_ ∧ FrameEnd U_ o_ U2_ L_ room_1.cells room_1.slots) := by
  refine MetFree.of_bodySF (plainFor_of_name own_pn_com_example_saasy_saasy_koogallerycommon_EncryptTypeNumberedPinLaw) hisR ?_
  intro p e s m args below meth c s₁ Bd hml0 hP hK
  obtain ⟨rfl, hZ, hh⟩ := hP
  have hx := Bd.exec
  have hby := Bd.bytes
  have hml : c.maxLocals = 6 := hml0
  have hown : s.vm.findClass "com/example/saasy/saasy/koogallerycommon/EncryptTypeNumberedPinLaw" = some m.cls := findClass_of_methodNamed Bd.named
  have hnm := (name_of_methodNamed Bd.named Bd.method).1
  have hlk : meth.locks = false := Bd.notSynchronized
  have hret := Bd.returns
  have X0 : Stand p l e room_1 s m #[(.int x0), (.int x1)] below meth c s₁ [] 0 0 := Stand.of_body Bd
  have e0 : s₁.heap = h0 := by rw [← hh, Bd.state]; rfl
  have N0 := Fr.nil n0
  have z0 : Z.heap.size = n0 := O0.1
  have z1 : n0 ≤ h0.size := z0 ▸ O0.2.1
  show own_Goes p e below (s₁.setTop (entryFrame m #[(.int x0), (.int x1)] maxLocals)) (own_PostN s (Q_rm0 Z x0 x1 gw1 gw2 gwA gk h0 n0) room_1.cells room_1.slots)
  refine own_cast (own_ef_rm0 m x0 x1) ?_
  show own_Goes p e below (s₁.setTop (mkF m 0 #[.val (.int x0), .val (.int x1), .unset, .unset, .unset, .unset] [])) _
  obtain ⟨G0, G1, G2, G3, G4, G5, G6, G7, G8⟩ := id G
  have ltG1 : gw1 < Z.heap.size := G1.lt
  have ltG3 : gw2 < Z.heap.size := G3.lt
  have ltG5 : gwA < Z.heap.size := G5.lt
  refine own_go (fun t_ k_ => XS.iloadN X0.here hx rfl (hb hby at_0) rfl k_) ?_
  show own_Goes p e below (s₁.setTop (mkF m 1 #[.val (.int x0), .val (.int x1), .unset, .unset, .unset, .unset] [(.int x0)])) _
  refine own_go (fun t_ k_ => XS.iconst X0.here hx rfl (hb hby at_1) k_) ?_
  show own_Goes p e below (s₁.setTop (mkF m 2 #[.val (.int x0), .val (.int x1), .unset, .unset, .unset, .unset] [(.int (3 : Int32)), (.int x0)])) _
  refine own_go (fun t_ k_ => XS.iand X0.here hx rfl (hb hby at_2) rfl k_) ?_
  show own_Goes p e below (s₁.setTop (mkF m 3 #[.val (.int x0), .val (.int x1), .unset, .unset, .unset, .unset] [(.int (x0 &&& (3 : Int32)))])) _
  refine own_go (fun t_ k_ => XS.istoreN X0.here hx rfl (hb hby at_3) rfl (l' := #[.val (.int x0), .val (.int x1), .val (.int (x0 &&& (3 : Int32))), .unset, .unset, .unset]) rfl k_) ?_
  show own_Goes p e below (s₁.setTop (mkF m 4 #[.val (.int x0), .val (.int x1), .val (.int (x0 &&& (3 : Int32))), .unset, .unset, .unset] [])) _
  refine own_go (fun t_ k_ => XS.iloadN X0.here hx rfl (hb hby at_4) rfl k_) ?_
  show own_Goes p e below (s₁.setTop (mkF m 5 #[.val (.int x0), .val (.int x1), .val (.int (x0 &&& (3 : Int32))), .unset, .unset, .unset] [(.int (x0 &&& (3 : Int32)))])) _
  by_cases hc1 : (x0 &&& (3 : Int32)) = (0 : Int32)
  · refine own_go (fun t_ k_ => XS.ifNo X0.here hx rfl (hb hby at_5) rfl ((if0 _ _).trans (teq hc1).2) k_) ?_
    show own_Goes p e below (s₁.setTop (mkF m 8 #[.val (.int x0), .val (.int x1), .val (.int (x0 &&& (3 : Int32))), .unset, .unset, .unset] [])) _
    refine own_go (fun t_ k_ => XS.iconst X0.here hx rfl (hb hby at_8) k_) ?_
    show own_Goes p e below (s₁.setTop (mkF m 9 #[.val (.int x0), .val (.int x1), .val (.int (x0 &&& (3 : Int32))), .unset, .unset, .unset] [(.int (1 : Int32))])) _
    refine own_go (fun t_ k_ => XS.istoreN X0.here hx rfl (hb hby at_9) rfl (l' := #[.val (.int x0), .val (.int x1), .val (.int (x0 &&& (3 : Int32))), .val (.int (1 : Int32)), .unset, .unset]) rfl k_) ?_
    show own_Goes p e below (s₁.setTop (mkF m 10 #[.val (.int x0), .val (.int x1), .val (.int (x0 &&& (3 : Int32))), .val (.int (1 : Int32)), .unset, .unset] [])) _
    refine own_go (fun t_ k_ => XS.goto X0.here hx rfl (pc0 := 10) (pc' := 25) rfl (hb hby at_10) (by decide) (by decide) k_) ?_
    show own_Goes p e below (s₁.setTop (mkF m 25 #[.val (.int x0), .val (.int x1), .val (.int (x0 &&& (3 : Int32))), .val (.int (1 : Int32)), .unset, .unset] [])) _
    refine own_go (fun t_ k_ => XS.iloadN X0.here hx rfl (hb hby at_25) rfl k_) ?_
    show own_Goes p e below (s₁.setTop (mkF m 26 #[.val (.int x0), .val (.int x1), .val (.int (x0 &&& (3 : Int32))), .val (.int (1 : Int32)), .unset, .unset] [(.int (1 : Int32))])) _
    obtain ⟨_, _, ⟨T2, L2, k2, n2⟩, -, X2, ⟨Lc2, hQ2, l2, y2, z2⟩, st2⟩ := Jvm.LawKit.callS X0 hx (y := own_m3) hown (mvT hZ (hw _ (List.mem_of_getElem? (i := 0) rfl))) (mvT hZ (hw _ (List.mem_of_getElem? (i := 1) rfl))) (mvT hZ (hw _ (List.mem_of_getElem? (i := 2) rfl))) (mvT hZ (hw _ (List.mem_of_getElem? (i := 3) rfl))) (by decide) (backOf (W := 0) (own_nb1 l Z a0 hw [] (1 : Int32) h0 n0 O0 gw1 gw2 gwA gk G (show (1 : Int32) = (1 : Int32) by first | assumption | omega | decide)) hZ (hw _ (List.mem_of_getElem? (i := 3) rfl)) (hw _ (List.mem_of_getElem? (i := 2) rfl)) (by decide) (by decide)) (g := (mkF m 26 #[.val (.int x0), .val (.int x1), .val (.int (x0 &&& (3 : Int32))), .val (.int (1 : Int32)), .unset, .unset] [(.int (1 : Int32))])) rfl (by rw [hml]; rfl) (argsL := [(.int (1 : Int32))]) (rest := []) (lenOf own_pd_2 rfl) rfl (by show 2 * 0 + _ ≤ _; exact Nat.le_of_eq rfl) (hb hby at_26) (fun _ _ => ⟨rfl, e0, (by decide : 0 + 1 ≤ _), (by decide : 0 + 2 ≤ _)⟩)
    dsimp only [Pt.U, Pt.locs, Pt.cells, Pt.slots] at X2 l2 y2 z2 st2 hQ2
    subst l2 y2 z2
    obtain ⟨h2, e2⟩ : ∃ z, T2.heap = z := ⟨_, rfl⟩
    rw [e2] at hQ2
    obtain ⟨Nc2, Kc2, rfl⟩ := hQ2
    have N2 := Fr.app N0 Nc2
    have O3 := O0.keep Kc2 all0
    have sz4 : h0.size ≤ h2.size := Kc2.1
    refine own_go st2 ?_
    show own_Goes p e below (T2.setTop (mkF m 29 #[.val (.int x0), .val (.int x1), .val (.int (x0 &&& (3 : Int32))), .val (.int (1 : Int32)), .unset, .unset] [(.ref gw1)])) _
    refine own_go (fun t_ k_ => XS.astore X2.here hx rfl (hb hby at_29) rfl rfl (l' := #[.val (.int x0), .val (.int x1), .val (.int (x0 &&& (3 : Int32))), .val (.int (1 : Int32)), .val (.ref gw1), .unset]) rfl k_) ?_
    show own_Goes p e below (T2.setTop (mkF m 31 #[.val (.int x0), .val (.int x1), .val (.int (x0 &&& (3 : Int32))), .val (.int (1 : Int32)), .val (.ref gw1), .unset] [])) _
    refine own_go (fun t_ k_ => XS.iloadN X2.here hx rfl (hb hby at_31) rfl k_) ?_
    show own_Goes p e below (T2.setTop (mkF m 32 #[.val (.int x0), .val (.int x1), .val (.int (x0 &&& (3 : Int32))), .val (.int (1 : Int32)), .val (.ref gw1), .unset] [(.int (1 : Int32))])) _
    refine own_go (fun t_ k_ => XS.iconst X2.here hx rfl (hb hby at_32) k_) ?_
    show own_Goes p e below (T2.setTop (mkF m 33 #[.val (.int x0), .val (.int x1), .val (.int (x0 &&& (3 : Int32))), .val (.int (1 : Int32)), .val (.ref gw1), .unset] [(.int (1 : Int32)), (.int (1 : Int32))])) _
    refine own_go (fun t_ k_ => XS.icmpNo X2.here hx rfl (hb hby at_33) rfl (teq (show ((1 : Int32) = (1 : Int32)) from by decide)).2 k_) ?_
    show own_Goes p e below (T2.setTop (mkF m 36 #[.val (.int x0), .val (.int x1), .val (.int (x0 &&& (3 : Int32))), .val (.int (1 : Int32)), .val (.ref gw1), .unset] [])) _
    have q5 := G0.ext O3.2
    obtain ⟨T6, X6, e6, st6⟩ := getS2 X2 hx hZ hown (host := "") (Or.inl (hw _ (List.mem_of_getElem? (i := 23) rfl))) Via.refl e2 q5 (g := (mkF m 36 #[.val (.int x0), .val (.int x1), .val (.int (x0 &&& (3 : Int32))), .val (.int (1 : Int32)), .val (.ref gw1), .unset] [])) rfl (hb hby at_36)
    refine own_go st6 ?_
    show own_Goes p e below (T6.setTop (mkF m 39 #[.val (.int x0), .val (.int x1), .val (.int (x0 &&& (3 : Int32))), .val (.int (1 : Int32)), .val (.ref gw1), .unset] [(.ref gw1)])) _
    refine own_go (fun t_ k_ => XS.astore X6.here hx rfl (hb hby at_39) rfl rfl (l' := #[.val (.int x0), .val (.int x1), .val (.int (x0 &&& (3 : Int32))), .val (.int (1 : Int32)), .val (.ref gw1), .val (.ref gw1)]) rfl k_) ?_
    show own_Goes p e below (T6.setTop (mkF m 41 #[.val (.int x0), .val (.int x1), .val (.int (x0 &&& (3 : Int32))), .val (.int (1 : Int32)), .val (.ref gw1), .val (.ref gw1)] [])) _
    refine own_go (fun t_ k_ => XS.goto X6.here hx rfl (pc0 := 41) (pc' := 60) rfl (hb hby at_41) (by decide) (by decide) k_) ?_
    show own_Goes p e below (T6.setTop (mkF m 60 #[.val (.int x0), .val (.int x1), .val (.int (x0 &&& (3 : Int32))), .val (.int (1 : Int32)), .val (.ref gw1), .val (.ref gw1)] [])) _
    refine own_go (fun t_ k_ => XS.aload X6.here hx rfl (hb hby at_60) rfl rfl k_) ?_
    show own_Goes p e below (T6.setTop (mkF m 62 #[.val (.int x0), .val (.int x1), .val (.int (x0 &&& (3 : Int32))), .val (.int (1 : Int32)), .val (.ref gw1), .val (.ref gw1)] [(.ref gw1)])) _
    refine own_go (fun t_ k_ => XS.aload X6.here hx rfl (hb hby at_62) rfl rfl k_) ?_
    show own_Goes p e below (T6.setTop (mkF m 64 #[.val (.int x0), .val (.int x1), .val (.int (x0 &&& (3 : Int32))), .val (.int (1 : Int32)), .val (.ref gw1), .val (.ref gw1)] [(.ref gw1), (.ref gw1)])) _
    refine own_go (fun t_ k_ => Jvm.RoadKit.acmp (g := (mkF m 64 #[.val (.int x0), .val (.int x1), .val (.int (x0 &&& (3 : Int32))), .val (.int (1 : Int32)), .val (.ref gw1), .val (.ref gw1)] [(.ref gw1), (.ref gw1)])) X6 hx rfl rfl rfl (pc0 := 64) (pc' := 69) (same := true) rfl (hb hby at_64) rfl (decide_eq_true rfl) (by decide) (by decide) k_) ?_
    show own_Goes p e below (T6.setTop (mkF m 69 #[.val (.int x0), .val (.int x1), .val (.int (x0 &&& (3 : Int32))), .val (.int (1 : Int32)), .val (.ref gw1), .val (.ref gw1)] [])) _
    refine own_go (fun t_ k_ => XS.aload X6.here hx rfl (hb hby at_69) rfl rfl k_) ?_
    show own_Goes p e below (T6.setTop (mkF m 71 #[.val (.int x0), .val (.int x1), .val (.int (x0 &&& (3 : Int32))), .val (.int (1 : Int32)), .val (.ref gw1), .val (.ref gw1)] [(.ref gw1)])) _
    refine own_go (fun t_ k_ => XS.ifnullNo X6.here hx rfl (hb hby at_71) rfl k_) ?_
    show own_Goes p e below (T6.setTop (mkF m 74 #[.val (.int x0), .val (.int x1), .val (.int (x0 &&& (3 : Int32))), .val (.int (1 : Int32)), .val (.ref gw1), .val (.ref gw1)] [])) _
    refine own_go (fun t_ k_ => XS.aload X6.here hx rfl (hb hby at_74) rfl rfl k_) ?_
    show own_Goes p e below (T6.setTop (mkF m 76 #[.val (.int x0), .val (.int x1), .val (.int (x0 &&& (3 : Int32))), .val (.int (1 : Int32)), .val (.ref gw1), .val (.ref gw1)] [(.ref gw1)])) _
    have q7 := G7.ext O3.2
    have q8 := G1.ext O3.2
    obtain ⟨cqiv9, kqiv9, qiv9a, qiv9b, qiv9c⟩ := isOf hZ e6 q8
    obtain ⟨_, _, ⟨T10, L10, k10, n10⟩, -, X10, ⟨Lc10, hQ10, l10, y10, z10⟩, st10⟩ := X6.virtualBack hx (y := own_m5) (z := own_m5) hown (mvT hZ (hw _ (List.mem_of_getElem? (i := 24) rfl))) (mvT hZ (hw _ (List.mem_of_getElem? (i := 25) rfl))) (notFace_of_selects (args := #[]) (mvT hZ (hw _ (List.mem_of_getElem? (i := 27) rfl)))) (mvT hZ (hw _ (List.mem_of_getElem? (i := 27) rfl))) (mvT hZ (hw _ (List.mem_of_getElem? (i := 26) rfl))) (by decide) (backOf (W := 0) (own_number l Z a0 hw [] gw1 (1 : Int32) h2 n0 O3 q7) hZ (hw _ (List.mem_of_getElem? (i := 28) rfl)) (hw _ (List.mem_of_getElem? (i := 2) rfl)) (by decide) (by decide)) qiv9a qiv9c (g := (mkF m 76 #[.val (.int x0), .val (.int x1), .val (.int (x0 &&& (3 : Int32))), .val (.int (1 : Int32)), .val (.ref gw1), .val (.ref gw1)] [(.ref gw1)])) rfl (by rw [hml]; rfl) (Steps.refl _) (argsL := []) (rest := []) (lenOf own_pd_4 rfl) rfl (by show 2 * 0 + _ ≤ _; exact Nat.le_of_eq rfl) (hb hby at_76) (fun _ _ => ⟨rfl, e6, (by decide : 1 + 0 ≤ _), (by decide : 2 + 0 ≤ _)⟩)
    dsimp only [Pt.U, Pt.locs, Pt.cells, Pt.slots] at X10 l10 y10 z10 st10 hQ10
    subst l10 y10 z10
    obtain ⟨Nc10, e10, rfl⟩ := hQ10
    have N10 := Fr.app N2 Nc10
    refine own_goS st10 ?_
    show own_Goes p e below (T10.setTop (mkF m 79 #[.val (.int x0), .val (.int x1), .val (.int (x0 &&& (3 : Int32))), .val (.int (1 : Int32)), .val (.ref gw1), .val (.ref gw1)] [(.int (1 : Int32))])) _
    refine own_go (fun t_ k_ => XS.iloadN X10.here hx rfl (hb hby at_79) rfl k_) ?_
    show own_Goes p e below (T10.setTop (mkF m 80 #[.val (.int x0), .val (.int x1), .val (.int (x0 &&& (3 : Int32))), .val (.int (1 : Int32)), .val (.ref gw1), .val (.ref gw1)] [(.int (1 : Int32)), (.int (1 : Int32))])) _
    refine own_go (fun t_ k_ => XS.icmpYes X10.here hx rfl (pc0 := 80) (pc' := 85) rfl (hb hby at_80) rfl (teq (show ((1 : Int32) = (1 : Int32)) from by decide)).1 (by decide) (by decide) k_) ?_
    show own_Goes p e below (T10.setTop (mkF m 85 #[.val (.int x0), .val (.int x1), .val (.int (x0 &&& (3 : Int32))), .val (.int (1 : Int32)), .val (.ref gw1), .val (.ref gw1)] [])) _
    refine own_go (fun t_ k_ => XS.iconst X10.here hx rfl (hb hby at_85) k_) ?_
    show own_Goes p e below (T10.setTop (mkF m 86 #[.val (.int x0), .val (.int x1), .val (.int (x0 &&& (3 : Int32))), .val (.int (1 : Int32)), .val (.ref gw1), .val (.ref gw1)] [(.int (1 : Int32))])) _
    refine own_endN X10 (v := (some (.int (1 : Int32)))) (fun h => by rw [hret] at h; cases h) hlk (by decide) (by decide) ?_ (fun fs hr => retOut X10 hx hret rfl (Or.inl ⟨rfl, Or.inr (Or.inl rfl), _, rfl⟩) (hb hby at_86) hr)
    show Q_rm0 Z x0 x1 gw1 gw2 gwA gk h0 n0 _ T10.heap _
    rw [e10]
    exact ⟨N10, trivial, rfl⟩
  · refine own_go (fun t_ k_ => XS.ifYes X0.here hx rfl (pc0 := 5) (pc' := 13) rfl (hb hby at_5) rfl ((if0 _ _).trans (feq hc1).2) (by decide) (by decide) k_) ?_
    show own_Goes p e below (s₁.setTop (mkF m 13 #[.val (.int x0), .val (.int x1), .val (.int (x0 &&& (3 : Int32))), .unset, .unset, .unset] [])) _
    refine own_go (fun t_ k_ => XS.iloadN X0.here hx rfl (hb hby at_13) rfl k_) ?_
    show own_Goes p e below (s₁.setTop (mkF m 14 #[.val (.int x0), .val (.int x1), .val (.int (x0 &&& (3 : Int32))), .unset, .unset, .unset] [(.int (x0 &&& (3 : Int32)))])) _
    refine own_go (fun t_ k_ => XS.iconst X0.here hx rfl (hb hby at_14) k_) ?_
    show own_Goes p e below (s₁.setTop (mkF m 15 #[.val (.int x0), .val (.int x1), .val (.int (x0 &&& (3 : Int32))), .unset, .unset, .unset] [(.int (1 : Int32)), (.int (x0 &&& (3 : Int32)))])) _
    by_cases hc11 : (x0 &&& (3 : Int32)) = (1 : Int32)
    · refine own_go (fun t_ k_ => XS.icmpNo X0.here hx rfl (hb hby at_15) rfl (teq hc11).2 k_) ?_
      show own_Goes p e below (s₁.setTop (mkF m 18 #[.val (.int x0), .val (.int x1), .val (.int (x0 &&& (3 : Int32))), .unset, .unset, .unset] [])) _
      refine own_go (fun t_ k_ => XS.iconst X0.here hx rfl (hb hby at_18) k_) ?_
      show own_Goes p e below (s₁.setTop (mkF m 19 #[.val (.int x0), .val (.int x1), .val (.int (x0 &&& (3 : Int32))), .unset, .unset, .unset] [(.int (2 : Int32))])) _
      refine own_go (fun t_ k_ => XS.istoreN X0.here hx rfl (hb hby at_19) rfl (l' := #[.val (.int x0), .val (.int x1), .val (.int (x0 &&& (3 : Int32))), .val (.int (2 : Int32)), .unset, .unset]) rfl k_) ?_
      show own_Goes p e below (s₁.setTop (mkF m 20 #[.val (.int x0), .val (.int x1), .val (.int (x0 &&& (3 : Int32))), .val (.int (2 : Int32)), .unset, .unset] [])) _
      refine own_go (fun t_ k_ => XS.goto X0.here hx rfl (pc0 := 20) (pc' := 25) rfl (hb hby at_20) (by decide) (by decide) k_) ?_
      show own_Goes p e below (s₁.setTop (mkF m 25 #[.val (.int x0), .val (.int x1), .val (.int (x0 &&& (3 : Int32))), .val (.int (2 : Int32)), .unset, .unset] [])) _
      refine own_go (fun t_ k_ => XS.iloadN X0.here hx rfl (hb hby at_25) rfl k_) ?_
      show own_Goes p e below (s₁.setTop (mkF m 26 #[.val (.int x0), .val (.int x1), .val (.int (x0 &&& (3 : Int32))), .val (.int (2 : Int32)), .unset, .unset] [(.int (2 : Int32))])) _
      obtain ⟨_, _, ⟨T12, L12, k12, n12⟩, -, X12, ⟨Lc12, hQ12, l12, y12, z12⟩, st12⟩ := Jvm.LawKit.callS X0 hx (y := own_m3) hown (mvT hZ (hw _ (List.mem_of_getElem? (i := 0) rfl))) (mvT hZ (hw _ (List.mem_of_getElem? (i := 1) rfl))) (mvT hZ (hw _ (List.mem_of_getElem? (i := 2) rfl))) (mvT hZ (hw _ (List.mem_of_getElem? (i := 3) rfl))) (by decide) (backOf (W := 0) (own_nb2 l Z a0 hw [] (2 : Int32) h0 n0 O0 gw1 gw2 gwA gk G (show (2 : Int32) = (2 : Int32) by first | assumption | omega | decide)) hZ (hw _ (List.mem_of_getElem? (i := 3) rfl)) (hw _ (List.mem_of_getElem? (i := 2) rfl)) (by decide) (by decide)) (g := (mkF m 26 #[.val (.int x0), .val (.int x1), .val (.int (x0 &&& (3 : Int32))), .val (.int (2 : Int32)), .unset, .unset] [(.int (2 : Int32))])) rfl (by rw [hml]; rfl) (argsL := [(.int (2 : Int32))]) (rest := []) (lenOf own_pd_2 rfl) rfl (by show 2 * 0 + _ ≤ _; exact Nat.le_of_eq rfl) (hb hby at_26) (fun _ _ => ⟨rfl, e0, (by decide : 0 + 1 ≤ _), (by decide : 0 + 2 ≤ _)⟩)
      dsimp only [Pt.U, Pt.locs, Pt.cells, Pt.slots] at X12 l12 y12 z12 st12 hQ12
      subst l12 y12 z12
      obtain ⟨h12, e12⟩ : ∃ z, T12.heap = z := ⟨_, rfl⟩
      rw [e12] at hQ12
      obtain ⟨Nc12, Kc12, rfl⟩ := hQ12
      have N12 := Fr.app N0 Nc12
      have O13 := O0.keep Kc12 all0
      have sz14 : h0.size ≤ h12.size := Kc12.1
      refine own_go st12 ?_
      show own_Goes p e below (T12.setTop (mkF m 29 #[.val (.int x0), .val (.int x1), .val (.int (x0 &&& (3 : Int32))), .val (.int (2 : Int32)), .unset, .unset] [(.ref gw2)])) _
      refine own_go (fun t_ k_ => XS.astore X12.here hx rfl (hb hby at_29) rfl rfl (l' := #[.val (.int x0), .val (.int x1), .val (.int (x0 &&& (3 : Int32))), .val (.int (2 : Int32)), .val (.ref gw2), .unset]) rfl k_) ?_
      show own_Goes p e below (T12.setTop (mkF m 31 #[.val (.int x0), .val (.int x1), .val (.int (x0 &&& (3 : Int32))), .val (.int (2 : Int32)), .val (.ref gw2), .unset] [])) _
      refine own_go (fun t_ k_ => XS.iloadN X12.here hx rfl (hb hby at_31) rfl k_) ?_
      show own_Goes p e below (T12.setTop (mkF m 32 #[.val (.int x0), .val (.int x1), .val (.int (x0 &&& (3 : Int32))), .val (.int (2 : Int32)), .val (.ref gw2), .unset] [(.int (2 : Int32))])) _
      refine own_go (fun t_ k_ => XS.iconst X12.here hx rfl (hb hby at_32) k_) ?_
      show own_Goes p e below (T12.setTop (mkF m 33 #[.val (.int x0), .val (.int x1), .val (.int (x0 &&& (3 : Int32))), .val (.int (2 : Int32)), .val (.ref gw2), .unset] [(.int (1 : Int32)), (.int (2 : Int32))])) _
      refine own_go (fun t_ k_ => XS.icmpYes X12.here hx rfl (pc0 := 33) (pc' := 44) rfl (hb hby at_33) rfl (feq (show ¬ ((2 : Int32) = (1 : Int32)) from by decide)).2 (by decide) (by decide) k_) ?_
      show own_Goes p e below (T12.setTop (mkF m 44 #[.val (.int x0), .val (.int x1), .val (.int (x0 &&& (3 : Int32))), .val (.int (2 : Int32)), .val (.ref gw2), .unset] [])) _
      refine own_go (fun t_ k_ => XS.iloadN X12.here hx rfl (hb hby at_44) rfl k_) ?_
      show own_Goes p e below (T12.setTop (mkF m 45 #[.val (.int x0), .val (.int x1), .val (.int (x0 &&& (3 : Int32))), .val (.int (2 : Int32)), .val (.ref gw2), .unset] [(.int (2 : Int32))])) _
      refine own_go (fun t_ k_ => XS.iconst X12.here hx rfl (hb hby at_45) k_) ?_
      show own_Goes p e below (T12.setTop (mkF m 46 #[.val (.int x0), .val (.int x1), .val (.int (x0 &&& (3 : Int32))), .val (.int (2 : Int32)), .val (.ref gw2), .unset] [(.int (2 : Int32)), (.int (2 : Int32))])) _
      refine own_go (fun t_ k_ => XS.icmpNo X12.here hx rfl (hb hby at_46) rfl (teq (show ((2 : Int32) = (2 : Int32)) from by decide)).2 k_) ?_
      show own_Goes p e below (T12.setTop (mkF m 49 #[.val (.int x0), .val (.int x1), .val (.int (x0 &&& (3 : Int32))), .val (.int (2 : Int32)), .val (.ref gw2), .unset] [])) _
      have q15 := G2.ext O13.2
      obtain ⟨T16, X16, e16, st16⟩ := getS2 X12 hx hZ hown (host := "") (Or.inl (hw _ (List.mem_of_getElem? (i := 29) rfl))) Via.refl e12 q15 (g := (mkF m 49 #[.val (.int x0), .val (.int x1), .val (.int (x0 &&& (3 : Int32))), .val (.int (2 : Int32)), .val (.ref gw2), .unset] [])) rfl (hb hby at_49)
      refine own_go st16 ?_
      show own_Goes p e below (T16.setTop (mkF m 52 #[.val (.int x0), .val (.int x1), .val (.int (x0 &&& (3 : Int32))), .val (.int (2 : Int32)), .val (.ref gw2), .unset] [(.ref gw2)])) _
      refine own_go (fun t_ k_ => XS.astore X16.here hx rfl (hb hby at_52) rfl rfl (l' := #[.val (.int x0), .val (.int x1), .val (.int (x0 &&& (3 : Int32))), .val (.int (2 : Int32)), .val (.ref gw2), .val (.ref gw2)]) rfl k_) ?_
      show own_Goes p e below (T16.setTop (mkF m 54 #[.val (.int x0), .val (.int x1), .val (.int (x0 &&& (3 : Int32))), .val (.int (2 : Int32)), .val (.ref gw2), .val (.ref gw2)] [])) _
      refine own_go (fun t_ k_ => XS.goto X16.here hx rfl (pc0 := 54) (pc' := 60) rfl (hb hby at_54) (by decide) (by decide) k_) ?_
      show own_Goes p e below (T16.setTop (mkF m 60 #[.val (.int x0), .val (.int x1), .val (.int (x0 &&& (3 : Int32))), .val (.int (2 : Int32)), .val (.ref gw2), .val (.ref gw2)] [])) _
      refine own_go (fun t_ k_ => XS.aload X16.here hx rfl (hb hby at_60) rfl rfl k_) ?_
      show own_Goes p e below (T16.setTop (mkF m 62 #[.val (.int x0), .val (.int x1), .val (.int (x0 &&& (3 : Int32))), .val (.int (2 : Int32)), .val (.ref gw2), .val (.ref gw2)] [(.ref gw2)])) _
      refine own_go (fun t_ k_ => XS.aload X16.here hx rfl (hb hby at_62) rfl rfl k_) ?_
      show own_Goes p e below (T16.setTop (mkF m 64 #[.val (.int x0), .val (.int x1), .val (.int (x0 &&& (3 : Int32))), .val (.int (2 : Int32)), .val (.ref gw2), .val (.ref gw2)] [(.ref gw2), (.ref gw2)])) _
      refine own_go (fun t_ k_ => Jvm.RoadKit.acmp (g := (mkF m 64 #[.val (.int x0), .val (.int x1), .val (.int (x0 &&& (3 : Int32))), .val (.int (2 : Int32)), .val (.ref gw2), .val (.ref gw2)] [(.ref gw2), (.ref gw2)])) X16 hx rfl rfl rfl (pc0 := 64) (pc' := 69) (same := true) rfl (hb hby at_64) rfl (decide_eq_true rfl) (by decide) (by decide) k_) ?_
      show own_Goes p e below (T16.setTop (mkF m 69 #[.val (.int x0), .val (.int x1), .val (.int (x0 &&& (3 : Int32))), .val (.int (2 : Int32)), .val (.ref gw2), .val (.ref gw2)] [])) _
      refine own_go (fun t_ k_ => XS.aload X16.here hx rfl (hb hby at_69) rfl rfl k_) ?_
      show own_Goes p e below (T16.setTop (mkF m 71 #[.val (.int x0), .val (.int x1), .val (.int (x0 &&& (3 : Int32))), .val (.int (2 : Int32)), .val (.ref gw2), .val (.ref gw2)] [(.ref gw2)])) _
      refine own_go (fun t_ k_ => XS.ifnullNo X16.here hx rfl (hb hby at_71) rfl k_) ?_
      show own_Goes p e below (T16.setTop (mkF m 74 #[.val (.int x0), .val (.int x1), .val (.int (x0 &&& (3 : Int32))), .val (.int (2 : Int32)), .val (.ref gw2), .val (.ref gw2)] [])) _
      refine own_go (fun t_ k_ => XS.aload X16.here hx rfl (hb hby at_74) rfl rfl k_) ?_
      show own_Goes p e below (T16.setTop (mkF m 76 #[.val (.int x0), .val (.int x1), .val (.int (x0 &&& (3 : Int32))), .val (.int (2 : Int32)), .val (.ref gw2), .val (.ref gw2)] [(.ref gw2)])) _
      have q17 := G8.ext O13.2
      have q18 := G3.ext O13.2
      obtain ⟨cqiv19, kqiv19, qiv19a, qiv19b, qiv19c⟩ := isOf hZ e16 q18
      obtain ⟨_, _, ⟨T20, L20, k20, n20⟩, -, X20, ⟨Lc20, hQ20, l20, y20, z20⟩, st20⟩ := X16.virtualBack hx (y := own_m5) (z := own_m5) hown (mvT hZ (hw _ (List.mem_of_getElem? (i := 24) rfl))) (mvT hZ (hw _ (List.mem_of_getElem? (i := 25) rfl))) (notFace_of_selects (args := #[]) (mvT hZ (hw _ (List.mem_of_getElem? (i := 27) rfl)))) (mvT hZ (hw _ (List.mem_of_getElem? (i := 27) rfl))) (mvT hZ (hw _ (List.mem_of_getElem? (i := 26) rfl))) (by decide) (backOf (W := 0) (own_number l Z a0 hw [] gw2 (2 : Int32) h12 n0 O13 q17) hZ (hw _ (List.mem_of_getElem? (i := 28) rfl)) (hw _ (List.mem_of_getElem? (i := 2) rfl)) (by decide) (by decide)) qiv19a qiv19c (g := (mkF m 76 #[.val (.int x0), .val (.int x1), .val (.int (x0 &&& (3 : Int32))), .val (.int (2 : Int32)), .val (.ref gw2), .val (.ref gw2)] [(.ref gw2)])) rfl (by rw [hml]; rfl) (Steps.refl _) (argsL := []) (rest := []) (lenOf own_pd_4 rfl) rfl (by show 2 * 0 + _ ≤ _; exact Nat.le_of_eq rfl) (hb hby at_76) (fun _ _ => ⟨rfl, e16, (by decide : 1 + 0 ≤ _), (by decide : 2 + 0 ≤ _)⟩)
      dsimp only [Pt.U, Pt.locs, Pt.cells, Pt.slots] at X20 l20 y20 z20 st20 hQ20
      subst l20 y20 z20
      obtain ⟨Nc20, e20, rfl⟩ := hQ20
      have N20 := Fr.app N12 Nc20
      refine own_goS st20 ?_
      show own_Goes p e below (T20.setTop (mkF m 79 #[.val (.int x0), .val (.int x1), .val (.int (x0 &&& (3 : Int32))), .val (.int (2 : Int32)), .val (.ref gw2), .val (.ref gw2)] [(.int (2 : Int32))])) _
      refine own_go (fun t_ k_ => XS.iloadN X20.here hx rfl (hb hby at_79) rfl k_) ?_
      show own_Goes p e below (T20.setTop (mkF m 80 #[.val (.int x0), .val (.int x1), .val (.int (x0 &&& (3 : Int32))), .val (.int (2 : Int32)), .val (.ref gw2), .val (.ref gw2)] [(.int (2 : Int32)), (.int (2 : Int32))])) _
      refine own_go (fun t_ k_ => XS.icmpYes X20.here hx rfl (pc0 := 80) (pc' := 85) rfl (hb hby at_80) rfl (teq (show ((2 : Int32) = (2 : Int32)) from by decide)).1 (by decide) (by decide) k_) ?_
      show own_Goes p e below (T20.setTop (mkF m 85 #[.val (.int x0), .val (.int x1), .val (.int (x0 &&& (3 : Int32))), .val (.int (2 : Int32)), .val (.ref gw2), .val (.ref gw2)] [])) _
      refine own_go (fun t_ k_ => XS.iconst X20.here hx rfl (hb hby at_85) k_) ?_
      show own_Goes p e below (T20.setTop (mkF m 86 #[.val (.int x0), .val (.int x1), .val (.int (x0 &&& (3 : Int32))), .val (.int (2 : Int32)), .val (.ref gw2), .val (.ref gw2)] [(.int (1 : Int32))])) _
      refine own_endN X20 (v := (some (.int (1 : Int32)))) (fun h => by rw [hret] at h; cases h) hlk (by decide) (by decide) ?_ (fun fs hr => retOut X20 hx hret rfl (Or.inl ⟨rfl, Or.inr (Or.inl rfl), _, rfl⟩) (hb hby at_86) hr)
      show Q_rm0 Z x0 x1 gw1 gw2 gwA gk h0 n0 _ T20.heap _
      rw [e20]
      exact ⟨N20, trivial, rfl⟩
    · refine own_go (fun t_ k_ => XS.icmpYes X0.here hx rfl (pc0 := 15) (pc' := 23) rfl (hb hby at_15) rfl (feq hc11).2 (by decide) (by decide) k_) ?_
      show own_Goes p e below (s₁.setTop (mkF m 23 #[.val (.int x0), .val (.int x1), .val (.int (x0 &&& (3 : Int32))), .unset, .unset, .unset] [])) _
      refine own_go (fun t_ k_ => XS.iloadN X0.here hx rfl (hb hby at_23) rfl k_) ?_
      show own_Goes p e below (s₁.setTop (mkF m 24 #[.val (.int x0), .val (.int x1), .val (.int (x0 &&& (3 : Int32))), .unset, .unset, .unset] [(.int x1)])) _
      refine own_go (fun t_ k_ => XS.istoreN X0.here hx rfl (hb hby at_24) rfl (l' := #[.val (.int x0), .val (.int x1), .val (.int (x0 &&& (3 : Int32))), .val (.int x1), .unset, .unset]) rfl k_) ?_
      show own_Goes p e below (s₁.setTop (mkF m 25 #[.val (.int x0), .val (.int x1), .val (.int (x0 &&& (3 : Int32))), .val (.int x1), .unset, .unset] [])) _
      refine own_go (fun t_ k_ => XS.iloadN X0.here hx rfl (hb hby at_25) rfl k_) ?_
      show own_Goes p e below (s₁.setTop (mkF m 26 #[.val (.int x0), .val (.int x1), .val (.int (x0 &&& (3 : Int32))), .val (.int x1), .unset, .unset] [(.int x1)])) _
      by_cases hd21 : x1 = (1 : Int32)
      · obtain ⟨_, _, ⟨T22, L22, k22, n22⟩, -, X22, ⟨Lc22, hQ22, l22, y22, z22⟩, st22⟩ := Jvm.LawKit.callS X0 hx (y := own_m3) hown (mvT hZ (hw _ (List.mem_of_getElem? (i := 0) rfl))) (mvT hZ (hw _ (List.mem_of_getElem? (i := 1) rfl))) (mvT hZ (hw _ (List.mem_of_getElem? (i := 2) rfl))) (mvT hZ (hw _ (List.mem_of_getElem? (i := 3) rfl))) (by decide) (backOf (W := 0) (own_nb1 l Z a0 hw [] x1 h0 n0 O0 gw1 gw2 gwA gk G (show x1 = (1 : Int32) by first | assumption | omega | decide)) hZ (hw _ (List.mem_of_getElem? (i := 3) rfl)) (hw _ (List.mem_of_getElem? (i := 2) rfl)) (by decide) (by decide)) (g := (mkF m 26 #[.val (.int x0), .val (.int x1), .val (.int (x0 &&& (3 : Int32))), .val (.int x1), .unset, .unset] [(.int x1)])) rfl (by rw [hml]; rfl) (argsL := [(.int x1)]) (rest := []) (lenOf own_pd_2 rfl) rfl (by show 2 * 0 + _ ≤ _; exact Nat.le_of_eq rfl) (hb hby at_26) (fun _ _ => ⟨rfl, e0, (by decide : 0 + 1 ≤ _), (by decide : 0 + 2 ≤ _)⟩)
        dsimp only [Pt.U, Pt.locs, Pt.cells, Pt.slots] at X22 l22 y22 z22 st22 hQ22
        subst l22 y22 z22
        obtain ⟨h22, e22⟩ : ∃ z, T22.heap = z := ⟨_, rfl⟩
        rw [e22] at hQ22
        obtain ⟨Nc22, Kc22, rfl⟩ := hQ22
        have N22 := Fr.app N0 Nc22
        have O23 := O0.keep Kc22 all0
        have sz24 : h0.size ≤ h22.size := Kc22.1
        refine own_go st22 ?_
        show own_Goes p e below (T22.setTop (mkF m 29 #[.val (.int x0), .val (.int x1), .val (.int (x0 &&& (3 : Int32))), .val (.int x1), .unset, .unset] [(.ref gw1)])) _
        refine own_go (fun t_ k_ => XS.astore X22.here hx rfl (hb hby at_29) rfl rfl (l' := #[.val (.int x0), .val (.int x1), .val (.int (x0 &&& (3 : Int32))), .val (.int x1), .val (.ref gw1), .unset]) rfl k_) ?_
        show own_Goes p e below (T22.setTop (mkF m 31 #[.val (.int x0), .val (.int x1), .val (.int (x0 &&& (3 : Int32))), .val (.int x1), .val (.ref gw1), .unset] [])) _
        refine own_go (fun t_ k_ => XS.iloadN X22.here hx rfl (hb hby at_31) rfl k_) ?_
        show own_Goes p e below (T22.setTop (mkF m 32 #[.val (.int x0), .val (.int x1), .val (.int (x0 &&& (3 : Int32))), .val (.int x1), .val (.ref gw1), .unset] [(.int x1)])) _
        refine own_go (fun t_ k_ => XS.iconst X22.here hx rfl (hb hby at_32) k_) ?_
        show own_Goes p e below (T22.setTop (mkF m 33 #[.val (.int x0), .val (.int x1), .val (.int (x0 &&& (3 : Int32))), .val (.int x1), .val (.ref gw1), .unset] [(.int (1 : Int32)), (.int x1)])) _
        refine own_go (fun t_ k_ => XS.icmpNo X22.here hx rfl (hb hby at_33) rfl (teq hd21).2 k_) ?_
        show own_Goes p e below (T22.setTop (mkF m 36 #[.val (.int x0), .val (.int x1), .val (.int (x0 &&& (3 : Int32))), .val (.int x1), .val (.ref gw1), .unset] [])) _
        have q25 := G0.ext O23.2
        obtain ⟨T26, X26, e26, st26⟩ := getS2 X22 hx hZ hown (host := "") (Or.inl (hw _ (List.mem_of_getElem? (i := 23) rfl))) Via.refl e22 q25 (g := (mkF m 36 #[.val (.int x0), .val (.int x1), .val (.int (x0 &&& (3 : Int32))), .val (.int x1), .val (.ref gw1), .unset] [])) rfl (hb hby at_36)
        refine own_go st26 ?_
        show own_Goes p e below (T26.setTop (mkF m 39 #[.val (.int x0), .val (.int x1), .val (.int (x0 &&& (3 : Int32))), .val (.int x1), .val (.ref gw1), .unset] [(.ref gw1)])) _
        refine own_go (fun t_ k_ => XS.astore X26.here hx rfl (hb hby at_39) rfl rfl (l' := #[.val (.int x0), .val (.int x1), .val (.int (x0 &&& (3 : Int32))), .val (.int x1), .val (.ref gw1), .val (.ref gw1)]) rfl k_) ?_
        show own_Goes p e below (T26.setTop (mkF m 41 #[.val (.int x0), .val (.int x1), .val (.int (x0 &&& (3 : Int32))), .val (.int x1), .val (.ref gw1), .val (.ref gw1)] [])) _
        refine own_go (fun t_ k_ => XS.goto X26.here hx rfl (pc0 := 41) (pc' := 60) rfl (hb hby at_41) (by decide) (by decide) k_) ?_
        show own_Goes p e below (T26.setTop (mkF m 60 #[.val (.int x0), .val (.int x1), .val (.int (x0 &&& (3 : Int32))), .val (.int x1), .val (.ref gw1), .val (.ref gw1)] [])) _
        refine own_go (fun t_ k_ => XS.aload X26.here hx rfl (hb hby at_60) rfl rfl k_) ?_
        show own_Goes p e below (T26.setTop (mkF m 62 #[.val (.int x0), .val (.int x1), .val (.int (x0 &&& (3 : Int32))), .val (.int x1), .val (.ref gw1), .val (.ref gw1)] [(.ref gw1)])) _
        refine own_go (fun t_ k_ => XS.aload X26.here hx rfl (hb hby at_62) rfl rfl k_) ?_
        show own_Goes p e below (T26.setTop (mkF m 64 #[.val (.int x0), .val (.int x1), .val (.int (x0 &&& (3 : Int32))), .val (.int x1), .val (.ref gw1), .val (.ref gw1)] [(.ref gw1), (.ref gw1)])) _
        refine own_go (fun t_ k_ => Jvm.RoadKit.acmp (g := (mkF m 64 #[.val (.int x0), .val (.int x1), .val (.int (x0 &&& (3 : Int32))), .val (.int x1), .val (.ref gw1), .val (.ref gw1)] [(.ref gw1), (.ref gw1)])) X26 hx rfl rfl rfl (pc0 := 64) (pc' := 69) (same := true) rfl (hb hby at_64) rfl (decide_eq_true rfl) (by decide) (by decide) k_) ?_
        show own_Goes p e below (T26.setTop (mkF m 69 #[.val (.int x0), .val (.int x1), .val (.int (x0 &&& (3 : Int32))), .val (.int x1), .val (.ref gw1), .val (.ref gw1)] [])) _
        refine own_go (fun t_ k_ => XS.aload X26.here hx rfl (hb hby at_69) rfl rfl k_) ?_
        show own_Goes p e below (T26.setTop (mkF m 71 #[.val (.int x0), .val (.int x1), .val (.int (x0 &&& (3 : Int32))), .val (.int x1), .val (.ref gw1), .val (.ref gw1)] [(.ref gw1)])) _
        refine own_go (fun t_ k_ => XS.ifnullNo X26.here hx rfl (hb hby at_71) rfl k_) ?_
        show own_Goes p e below (T26.setTop (mkF m 74 #[.val (.int x0), .val (.int x1), .val (.int (x0 &&& (3 : Int32))), .val (.int x1), .val (.ref gw1), .val (.ref gw1)] [])) _
        refine own_go (fun t_ k_ => XS.aload X26.here hx rfl (hb hby at_74) rfl rfl k_) ?_
        show own_Goes p e below (T26.setTop (mkF m 76 #[.val (.int x0), .val (.int x1), .val (.int (x0 &&& (3 : Int32))), .val (.int x1), .val (.ref gw1), .val (.ref gw1)] [(.ref gw1)])) _
        have q27 := G7.ext O23.2
        have q28 := G1.ext O23.2
        obtain ⟨cqiv29, kqiv29, qiv29a, qiv29b, qiv29c⟩ := isOf hZ e26 q28
        obtain ⟨_, _, ⟨T30, L30, k30, n30⟩, -, X30, ⟨Lc30, hQ30, l30, y30, z30⟩, st30⟩ := X26.virtualBack hx (y := own_m5) (z := own_m5) hown (mvT hZ (hw _ (List.mem_of_getElem? (i := 24) rfl))) (mvT hZ (hw _ (List.mem_of_getElem? (i := 25) rfl))) (notFace_of_selects (args := #[]) (mvT hZ (hw _ (List.mem_of_getElem? (i := 27) rfl)))) (mvT hZ (hw _ (List.mem_of_getElem? (i := 27) rfl))) (mvT hZ (hw _ (List.mem_of_getElem? (i := 26) rfl))) (by decide) (backOf (W := 0) (own_number l Z a0 hw [] gw1 (1 : Int32) h22 n0 O23 q27) hZ (hw _ (List.mem_of_getElem? (i := 28) rfl)) (hw _ (List.mem_of_getElem? (i := 2) rfl)) (by decide) (by decide)) qiv29a qiv29c (g := (mkF m 76 #[.val (.int x0), .val (.int x1), .val (.int (x0 &&& (3 : Int32))), .val (.int x1), .val (.ref gw1), .val (.ref gw1)] [(.ref gw1)])) rfl (by rw [hml]; rfl) (Steps.refl _) (argsL := []) (rest := []) (lenOf own_pd_4 rfl) rfl (by show 2 * 0 + _ ≤ _; exact Nat.le_of_eq rfl) (hb hby at_76) (fun _ _ => ⟨rfl, e26, (by decide : 1 + 0 ≤ _), (by decide : 2 + 0 ≤ _)⟩)
        dsimp only [Pt.U, Pt.locs, Pt.cells, Pt.slots] at X30 l30 y30 z30 st30 hQ30
        subst l30 y30 z30
        obtain ⟨Nc30, e30, rfl⟩ := hQ30
        have N30 := Fr.app N22 Nc30
        refine own_goS st30 ?_
        show own_Goes p e below (T30.setTop (mkF m 79 #[.val (.int x0), .val (.int x1), .val (.int (x0 &&& (3 : Int32))), .val (.int x1), .val (.ref gw1), .val (.ref gw1)] [(.int (1 : Int32))])) _
        refine own_go (fun t_ k_ => XS.iloadN X30.here hx rfl (hb hby at_79) rfl k_) ?_
        show own_Goes p e below (T30.setTop (mkF m 80 #[.val (.int x0), .val (.int x1), .val (.int (x0 &&& (3 : Int32))), .val (.int x1), .val (.ref gw1), .val (.ref gw1)] [(.int x1), (.int (1 : Int32))])) _
        refine own_go (fun t_ k_ => XS.icmpYes X30.here hx rfl (pc0 := 80) (pc' := 85) rfl (hb hby at_80) rfl (teq (show ((1 : Int32) = x1) from (by simp_all))).1 (by decide) (by decide) k_) ?_
        show own_Goes p e below (T30.setTop (mkF m 85 #[.val (.int x0), .val (.int x1), .val (.int (x0 &&& (3 : Int32))), .val (.int x1), .val (.ref gw1), .val (.ref gw1)] [])) _
        refine own_go (fun t_ k_ => XS.iconst X30.here hx rfl (hb hby at_85) k_) ?_
        show own_Goes p e below (T30.setTop (mkF m 86 #[.val (.int x0), .val (.int x1), .val (.int (x0 &&& (3 : Int32))), .val (.int x1), .val (.ref gw1), .val (.ref gw1)] [(.int (1 : Int32))])) _
        refine own_endN X30 (v := (some (.int (1 : Int32)))) (fun h => by rw [hret] at h; cases h) hlk (by decide) (by decide) ?_ (fun fs hr => retOut X30 hx hret rfl (Or.inl ⟨rfl, Or.inr (Or.inl rfl), _, rfl⟩) (hb hby at_86) hr)
        show Q_rm0 Z x0 x1 gw1 gw2 gwA gk h0 n0 _ T30.heap _
        rw [e30]
        exact ⟨N30, trivial, rfl⟩
      · by_cases hd31 : x1 = (2 : Int32)
        · obtain ⟨_, _, ⟨T32, L32, k32, n32⟩, -, X32, ⟨Lc32, hQ32, l32, y32, z32⟩, st32⟩ := Jvm.LawKit.callS X0 hx (y := own_m3) hown (mvT hZ (hw _ (List.mem_of_getElem? (i := 0) rfl))) (mvT hZ (hw _ (List.mem_of_getElem? (i := 1) rfl))) (mvT hZ (hw _ (List.mem_of_getElem? (i := 2) rfl))) (mvT hZ (hw _ (List.mem_of_getElem? (i := 3) rfl))) (by decide) (backOf (W := 0) (own_nb2 l Z a0 hw [] x1 h0 n0 O0 gw1 gw2 gwA gk G (show x1 = (2 : Int32) by first | assumption | omega | decide)) hZ (hw _ (List.mem_of_getElem? (i := 3) rfl)) (hw _ (List.mem_of_getElem? (i := 2) rfl)) (by decide) (by decide)) (g := (mkF m 26 #[.val (.int x0), .val (.int x1), .val (.int (x0 &&& (3 : Int32))), .val (.int x1), .unset, .unset] [(.int x1)])) rfl (by rw [hml]; rfl) (argsL := [(.int x1)]) (rest := []) (lenOf own_pd_2 rfl) rfl (by show 2 * 0 + _ ≤ _; exact Nat.le_of_eq rfl) (hb hby at_26) (fun _ _ => ⟨rfl, e0, (by decide : 0 + 1 ≤ _), (by decide : 0 + 2 ≤ _)⟩)
          dsimp only [Pt.U, Pt.locs, Pt.cells, Pt.slots] at X32 l32 y32 z32 st32 hQ32
          subst l32 y32 z32
          obtain ⟨h32, e32⟩ : ∃ z, T32.heap = z := ⟨_, rfl⟩
          rw [e32] at hQ32
          obtain ⟨Nc32, Kc32, rfl⟩ := hQ32
          have N32 := Fr.app N0 Nc32
          have O33 := O0.keep Kc32 all0
          have sz34 : h0.size ≤ h32.size := Kc32.1
          refine own_go st32 ?_
          show own_Goes p e below (T32.setTop (mkF m 29 #[.val (.int x0), .val (.int x1), .val (.int (x0 &&& (3 : Int32))), .val (.int x1), .unset, .unset] [(.ref gw2)])) _
          refine own_go (fun t_ k_ => XS.astore X32.here hx rfl (hb hby at_29) rfl rfl (l' := #[.val (.int x0), .val (.int x1), .val (.int (x0 &&& (3 : Int32))), .val (.int x1), .val (.ref gw2), .unset]) rfl k_) ?_
          show own_Goes p e below (T32.setTop (mkF m 31 #[.val (.int x0), .val (.int x1), .val (.int (x0 &&& (3 : Int32))), .val (.int x1), .val (.ref gw2), .unset] [])) _
          refine own_go (fun t_ k_ => XS.iloadN X32.here hx rfl (hb hby at_31) rfl k_) ?_
          show own_Goes p e below (T32.setTop (mkF m 32 #[.val (.int x0), .val (.int x1), .val (.int (x0 &&& (3 : Int32))), .val (.int x1), .val (.ref gw2), .unset] [(.int x1)])) _
          refine own_go (fun t_ k_ => XS.iconst X32.here hx rfl (hb hby at_32) k_) ?_
          show own_Goes p e below (T32.setTop (mkF m 33 #[.val (.int x0), .val (.int x1), .val (.int (x0 &&& (3 : Int32))), .val (.int x1), .val (.ref gw2), .unset] [(.int (1 : Int32)), (.int x1)])) _
          refine own_go (fun t_ k_ => XS.icmpYes X32.here hx rfl (pc0 := 33) (pc' := 44) rfl (hb hby at_33) rfl (feq hd21).2 (by decide) (by decide) k_) ?_
          show own_Goes p e below (T32.setTop (mkF m 44 #[.val (.int x0), .val (.int x1), .val (.int (x0 &&& (3 : Int32))), .val (.int x1), .val (.ref gw2), .unset] [])) _
          refine own_go (fun t_ k_ => XS.iloadN X32.here hx rfl (hb hby at_44) rfl k_) ?_
          show own_Goes p e below (T32.setTop (mkF m 45 #[.val (.int x0), .val (.int x1), .val (.int (x0 &&& (3 : Int32))), .val (.int x1), .val (.ref gw2), .unset] [(.int x1)])) _
          refine own_go (fun t_ k_ => XS.iconst X32.here hx rfl (hb hby at_45) k_) ?_
          show own_Goes p e below (T32.setTop (mkF m 46 #[.val (.int x0), .val (.int x1), .val (.int (x0 &&& (3 : Int32))), .val (.int x1), .val (.ref gw2), .unset] [(.int (2 : Int32)), (.int x1)])) _
          refine own_go (fun t_ k_ => XS.icmpNo X32.here hx rfl (hb hby at_46) rfl (teq hd31).2 k_) ?_
          show own_Goes p e below (T32.setTop (mkF m 49 #[.val (.int x0), .val (.int x1), .val (.int (x0 &&& (3 : Int32))), .val (.int x1), .val (.ref gw2), .unset] [])) _
          have q35 := G2.ext O33.2
          obtain ⟨T36, X36, e36, st36⟩ := getS2 X32 hx hZ hown (host := "") (Or.inl (hw _ (List.mem_of_getElem? (i := 29) rfl))) Via.refl e32 q35 (g := (mkF m 49 #[.val (.int x0), .val (.int x1), .val (.int (x0 &&& (3 : Int32))), .val (.int x1), .val (.ref gw2), .unset] [])) rfl (hb hby at_49)
          refine own_go st36 ?_
          show own_Goes p e below (T36.setTop (mkF m 52 #[.val (.int x0), .val (.int x1), .val (.int (x0 &&& (3 : Int32))), .val (.int x1), .val (.ref gw2), .unset] [(.ref gw2)])) _
          refine own_go (fun t_ k_ => XS.astore X36.here hx rfl (hb hby at_52) rfl rfl (l' := #[.val (.int x0), .val (.int x1), .val (.int (x0 &&& (3 : Int32))), .val (.int x1), .val (.ref gw2), .val (.ref gw2)]) rfl k_) ?_
          show own_Goes p e below (T36.setTop (mkF m 54 #[.val (.int x0), .val (.int x1), .val (.int (x0 &&& (3 : Int32))), .val (.int x1), .val (.ref gw2), .val (.ref gw2)] [])) _
          refine own_go (fun t_ k_ => XS.goto X36.here hx rfl (pc0 := 54) (pc' := 60) rfl (hb hby at_54) (by decide) (by decide) k_) ?_
          show own_Goes p e below (T36.setTop (mkF m 60 #[.val (.int x0), .val (.int x1), .val (.int (x0 &&& (3 : Int32))), .val (.int x1), .val (.ref gw2), .val (.ref gw2)] [])) _
          refine own_go (fun t_ k_ => XS.aload X36.here hx rfl (hb hby at_60) rfl rfl k_) ?_
          show own_Goes p e below (T36.setTop (mkF m 62 #[.val (.int x0), .val (.int x1), .val (.int (x0 &&& (3 : Int32))), .val (.int x1), .val (.ref gw2), .val (.ref gw2)] [(.ref gw2)])) _
          refine own_go (fun t_ k_ => XS.aload X36.here hx rfl (hb hby at_62) rfl rfl k_) ?_
          show own_Goes p e below (T36.setTop (mkF m 64 #[.val (.int x0), .val (.int x1), .val (.int (x0 &&& (3 : Int32))), .val (.int x1), .val (.ref gw2), .val (.ref gw2)] [(.ref gw2), (.ref gw2)])) _
          refine own_go (fun t_ k_ => Jvm.RoadKit.acmp (g := (mkF m 64 #[.val (.int x0), .val (.int x1), .val (.int (x0 &&& (3 : Int32))), .val (.int x1), .val (.ref gw2), .val (.ref gw2)] [(.ref gw2), (.ref gw2)])) X36 hx rfl rfl rfl (pc0 := 64) (pc' := 69) (same := true) rfl (hb hby at_64) rfl (decide_eq_true rfl) (by decide) (by decide) k_) ?_
          show own_Goes p e below (T36.setTop (mkF m 69 #[.val (.int x0), .val (.int x1), .val (.int (x0 &&& (3 : Int32))), .val (.int x1), .val (.ref gw2), .val (.ref gw2)] [])) _
          refine own_go (fun t_ k_ => XS.aload X36.here hx rfl (hb hby at_69) rfl rfl k_) ?_
          show own_Goes p e below (T36.setTop (mkF m 71 #[.val (.int x0), .val (.int x1), .val (.int (x0 &&& (3 : Int32))), .val (.int x1), .val (.ref gw2), .val (.ref gw2)] [(.ref gw2)])) _
          refine own_go (fun t_ k_ => XS.ifnullNo X36.here hx rfl (hb hby at_71) rfl k_) ?_
          show own_Goes p e below (T36.setTop (mkF m 74 #[.val (.int x0), .val (.int x1), .val (.int (x0 &&& (3 : Int32))), .val (.int x1), .val (.ref gw2), .val (.ref gw2)] [])) _
          refine own_go (fun t_ k_ => XS.aload X36.here hx rfl (hb hby at_74) rfl rfl k_) ?_
          show own_Goes p e below (T36.setTop (mkF m 76 #[.val (.int x0), .val (.int x1), .val (.int (x0 &&& (3 : Int32))), .val (.int x1), .val (.ref gw2), .val (.ref gw2)] [(.ref gw2)])) _
          have q37 := G8.ext O33.2
          have q38 := G3.ext O33.2
          obtain ⟨cqiv39, kqiv39, qiv39a, qiv39b, qiv39c⟩ := isOf hZ e36 q38
          obtain ⟨_, _, ⟨T40, L40, k40, n40⟩, -, X40, ⟨Lc40, hQ40, l40, y40, z40⟩, st40⟩ := X36.virtualBack hx (y := own_m5) (z := own_m5) hown (mvT hZ (hw _ (List.mem_of_getElem? (i := 24) rfl))) (mvT hZ (hw _ (List.mem_of_getElem? (i := 25) rfl))) (notFace_of_selects (args := #[]) (mvT hZ (hw _ (List.mem_of_getElem? (i := 27) rfl)))) (mvT hZ (hw _ (List.mem_of_getElem? (i := 27) rfl))) (mvT hZ (hw _ (List.mem_of_getElem? (i := 26) rfl))) (by decide) (backOf (W := 0) (own_number l Z a0 hw [] gw2 (2 : Int32) h32 n0 O33 q37) hZ (hw _ (List.mem_of_getElem? (i := 28) rfl)) (hw _ (List.mem_of_getElem? (i := 2) rfl)) (by decide) (by decide)) qiv39a qiv39c (g := (mkF m 76 #[.val (.int x0), .val (.int x1), .val (.int (x0 &&& (3 : Int32))), .val (.int x1), .val (.ref gw2), .val (.ref gw2)] [(.ref gw2)])) rfl (by rw [hml]; rfl) (Steps.refl _) (argsL := []) (rest := []) (lenOf own_pd_4 rfl) rfl (by show 2 * 0 + _ ≤ _; exact Nat.le_of_eq rfl) (hb hby at_76) (fun _ _ => ⟨rfl, e36, (by decide : 1 + 0 ≤ _), (by decide : 2 + 0 ≤ _)⟩)
          dsimp only [Pt.U, Pt.locs, Pt.cells, Pt.slots] at X40 l40 y40 z40 st40 hQ40
          subst l40 y40 z40
          obtain ⟨Nc40, e40, rfl⟩ := hQ40
          have N40 := Fr.app N32 Nc40
          refine own_goS st40 ?_
          show own_Goes p e below (T40.setTop (mkF m 79 #[.val (.int x0), .val (.int x1), .val (.int (x0 &&& (3 : Int32))), .val (.int x1), .val (.ref gw2), .val (.ref gw2)] [(.int (2 : Int32))])) _
          refine own_go (fun t_ k_ => XS.iloadN X40.here hx rfl (hb hby at_79) rfl k_) ?_
          show own_Goes p e below (T40.setTop (mkF m 80 #[.val (.int x0), .val (.int x1), .val (.int (x0 &&& (3 : Int32))), .val (.int x1), .val (.ref gw2), .val (.ref gw2)] [(.int x1), (.int (2 : Int32))])) _
          refine own_go (fun t_ k_ => XS.icmpYes X40.here hx rfl (pc0 := 80) (pc' := 85) rfl (hb hby at_80) rfl (teq (show ((2 : Int32) = x1) from (by simp_all))).1 (by decide) (by decide) k_) ?_
          show own_Goes p e below (T40.setTop (mkF m 85 #[.val (.int x0), .val (.int x1), .val (.int (x0 &&& (3 : Int32))), .val (.int x1), .val (.ref gw2), .val (.ref gw2)] [])) _
          refine own_go (fun t_ k_ => XS.iconst X40.here hx rfl (hb hby at_85) k_) ?_
          show own_Goes p e below (T40.setTop (mkF m 86 #[.val (.int x0), .val (.int x1), .val (.int (x0 &&& (3 : Int32))), .val (.int x1), .val (.ref gw2), .val (.ref gw2)] [(.int (1 : Int32))])) _
          refine own_endN X40 (v := (some (.int (1 : Int32)))) (fun h => by rw [hret] at h; cases h) hlk (by decide) (by decide) ?_ (fun fs hr => retOut X40 hx hret rfl (Or.inl ⟨rfl, Or.inr (Or.inl rfl), _, rfl⟩) (hb hby at_86) hr)
          show Q_rm0 Z x0 x1 gw1 gw2 gwA gk h0 n0 _ T40.heap _
          rw [e40]
          exact ⟨N40, trivial, rfl⟩
        · obtain ⟨_, _, ⟨T41, L41, k41, n41⟩, -, X41, ⟨Lc41, hQ41, l41, y41, z41⟩, st41⟩ := Jvm.LawKit.callS X0 hx (y := own_m3) hown (mvT hZ (hw _ (List.mem_of_getElem? (i := 0) rfl))) (mvT hZ (hw _ (List.mem_of_getElem? (i := 1) rfl))) (mvT hZ (hw _ (List.mem_of_getElem? (i := 2) rfl))) (mvT hZ (hw _ (List.mem_of_getElem? (i := 3) rfl))) (by decide) (backOf (W := 0) (own_nb0 l Z a0 hw [] x1 h0 n0 O0 gw1 gw2 gwA gk G (show ¬ x1 = (1 : Int32) by first | assumption | omega | decide) (show ¬ x1 = (2 : Int32) by first | assumption | omega | decide)) hZ (hw _ (List.mem_of_getElem? (i := 3) rfl)) (hw _ (List.mem_of_getElem? (i := 2) rfl)) (by decide) (by decide)) (g := (mkF m 26 #[.val (.int x0), .val (.int x1), .val (.int (x0 &&& (3 : Int32))), .val (.int x1), .unset, .unset] [(.int x1)])) rfl (by rw [hml]; rfl) (argsL := [(.int x1)]) (rest := []) (lenOf own_pd_2 rfl) rfl (by show 2 * 0 + _ ≤ _; exact Nat.le_of_eq rfl) (hb hby at_26) (fun _ _ => ⟨rfl, e0, (by decide : 0 + 1 ≤ _), (by decide : 0 + 2 ≤ _)⟩)
          dsimp only [Pt.U, Pt.locs, Pt.cells, Pt.slots] at X41 l41 y41 z41 st41 hQ41
          subst l41 y41 z41
          obtain ⟨h41, e41⟩ : ∃ z, T41.heap = z := ⟨_, rfl⟩
          rw [e41] at hQ41
          obtain ⟨Nc41, Kc41, rfl⟩ := hQ41
          have N41 := Fr.app N0 Nc41
          have O42 := O0.keep Kc41 all0
          have sz43 : h0.size ≤ h41.size := Kc41.1
          refine own_go st41 ?_
          show own_Goes p e below (T41.setTop (mkF m 29 #[.val (.int x0), .val (.int x1), .val (.int (x0 &&& (3 : Int32))), .val (.int x1), .unset, .unset] [.null])) _
          refine own_go (fun t_ k_ => XS.astore X41.here hx rfl (hb hby at_29) rfl rfl (l' := #[.val (.int x0), .val (.int x1), .val (.int (x0 &&& (3 : Int32))), .val (.int x1), .val .null, .unset]) rfl k_) ?_
          show own_Goes p e below (T41.setTop (mkF m 31 #[.val (.int x0), .val (.int x1), .val (.int (x0 &&& (3 : Int32))), .val (.int x1), .val .null, .unset] [])) _
          refine own_go (fun t_ k_ => XS.iloadN X41.here hx rfl (hb hby at_31) rfl k_) ?_
          show own_Goes p e below (T41.setTop (mkF m 32 #[.val (.int x0), .val (.int x1), .val (.int (x0 &&& (3 : Int32))), .val (.int x1), .val .null, .unset] [(.int x1)])) _
          refine own_go (fun t_ k_ => XS.iconst X41.here hx rfl (hb hby at_32) k_) ?_
          show own_Goes p e below (T41.setTop (mkF m 33 #[.val (.int x0), .val (.int x1), .val (.int (x0 &&& (3 : Int32))), .val (.int x1), .val .null, .unset] [(.int (1 : Int32)), (.int x1)])) _
          refine own_go (fun t_ k_ => XS.icmpYes X41.here hx rfl (pc0 := 33) (pc' := 44) rfl (hb hby at_33) rfl (feq hd21).2 (by decide) (by decide) k_) ?_
          show own_Goes p e below (T41.setTop (mkF m 44 #[.val (.int x0), .val (.int x1), .val (.int (x0 &&& (3 : Int32))), .val (.int x1), .val .null, .unset] [])) _
          refine own_go (fun t_ k_ => XS.iloadN X41.here hx rfl (hb hby at_44) rfl k_) ?_
          show own_Goes p e below (T41.setTop (mkF m 45 #[.val (.int x0), .val (.int x1), .val (.int (x0 &&& (3 : Int32))), .val (.int x1), .val .null, .unset] [(.int x1)])) _
          refine own_go (fun t_ k_ => XS.iconst X41.here hx rfl (hb hby at_45) k_) ?_
          show own_Goes p e below (T41.setTop (mkF m 46 #[.val (.int x0), .val (.int x1), .val (.int (x0 &&& (3 : Int32))), .val (.int x1), .val .null, .unset] [(.int (2 : Int32)), (.int x1)])) _
          refine own_go (fun t_ k_ => XS.icmpYes X41.here hx rfl (pc0 := 46) (pc' := 57) rfl (hb hby at_46) rfl (feq hd31).2 (by decide) (by decide) k_) ?_
          show own_Goes p e below (T41.setTop (mkF m 57 #[.val (.int x0), .val (.int x1), .val (.int (x0 &&& (3 : Int32))), .val (.int x1), .val .null, .unset] [])) _
          refine own_go (fun t_ k_ => XS.aconstNull X41.here hx rfl (hb hby at_57) k_) ?_
          show own_Goes p e below (T41.setTop (mkF m 58 #[.val (.int x0), .val (.int x1), .val (.int (x0 &&& (3 : Int32))), .val (.int x1), .val .null, .unset] [.null])) _
          refine own_go (fun t_ k_ => XS.astore X41.here hx rfl (hb hby at_58) rfl rfl (l' := #[.val (.int x0), .val (.int x1), .val (.int (x0 &&& (3 : Int32))), .val (.int x1), .val .null, .val .null]) rfl k_) ?_
          show own_Goes p e below (T41.setTop (mkF m 60 #[.val (.int x0), .val (.int x1), .val (.int (x0 &&& (3 : Int32))), .val (.int x1), .val .null, .val .null] [])) _
          refine own_go (fun t_ k_ => XS.aload X41.here hx rfl (hb hby at_60) rfl rfl k_) ?_
          show own_Goes p e below (T41.setTop (mkF m 62 #[.val (.int x0), .val (.int x1), .val (.int (x0 &&& (3 : Int32))), .val (.int x1), .val .null, .val .null] [.null])) _
          refine own_go (fun t_ k_ => XS.aload X41.here hx rfl (hb hby at_62) rfl rfl k_) ?_
          show own_Goes p e below (T41.setTop (mkF m 64 #[.val (.int x0), .val (.int x1), .val (.int (x0 &&& (3 : Int32))), .val (.int x1), .val .null, .val .null] [.null, .null])) _
          refine own_go (fun t_ k_ => Jvm.RoadKit.acmp (g := (mkF m 64 #[.val (.int x0), .val (.int x1), .val (.int (x0 &&& (3 : Int32))), .val (.int x1), .val .null, .val .null] [.null, .null])) X41 hx rfl rfl rfl (pc0 := 64) (pc' := 69) (same := true) rfl (hb hby at_64) rfl (decide_eq_true rfl) (by decide) (by decide) k_) ?_
          show own_Goes p e below (T41.setTop (mkF m 69 #[.val (.int x0), .val (.int x1), .val (.int (x0 &&& (3 : Int32))), .val (.int x1), .val .null, .val .null] [])) _
          refine own_go (fun t_ k_ => XS.aload X41.here hx rfl (hb hby at_69) rfl rfl k_) ?_
          show own_Goes p e below (T41.setTop (mkF m 71 #[.val (.int x0), .val (.int x1), .val (.int (x0 &&& (3 : Int32))), .val (.int x1), .val .null, .val .null] [.null])) _
          refine own_go (fun t_ k_ => XS.ifnullYes X41.here hx rfl (pc0 := 71) (pc' := 85) rfl (hb hby at_71) rfl (by decide) (by decide) k_) ?_
          show own_Goes p e below (T41.setTop (mkF m 85 #[.val (.int x0), .val (.int x1), .val (.int (x0 &&& (3 : Int32))), .val (.int x1), .val .null, .val .null] [])) _
          refine own_go (fun t_ k_ => XS.iconst X41.here hx rfl (hb hby at_85) k_) ?_
          show own_Goes p e below (T41.setTop (mkF m 86 #[.val (.int x0), .val (.int x1), .val (.int (x0 &&& (3 : Int32))), .val (.int x1), .val .null, .val .null] [(.int (1 : Int32))])) _
          refine own_endN X41 (v := (some (.int (1 : Int32)))) (fun h => by rw [hret] at h; cases h) hlk (by decide) (by decide) ?_ (fun fs hr => retOut X41 hx hret rfl (Or.inl ⟨rfl, Or.inr (Or.inl rfl), _, rfl⟩) (hb hby at_86) hr)
          show Q_rm0 Z x0 x1 gw1 gw2 gwA gk h0 n0 _ T41.heap _
          rw [e41]
          exact ⟨N41, trivial, rfl⟩
set_option maxRecDepth 65536 in
set_option maxHeartbeats 40000000 in
theorem comes_1 {Post : Tables → Env → Array Value → State → Outcome → State → Prop} (hpost : ∀ tb e args s v u, (limb_1_1.after args s (.returned v) u = true ∧ limb_1_2.after args s (.returned v) u = true ∧ True) → FrameEnd s (.returned v) u (Jvm.fieldLocs frame_1_writes args s ++ Jvm.arrayLocs frame_1_arrays args s ++ Jvm.staticLocs frame_1_statics s) 16 128 → Post tb e args s (.returned v) u) :
    ArmFor flags0 classFile x code maxLocals ret World_1 tables_1 room_1 Calls_1 rest_1 Pre_1 Post := by
  intro l hfl _ _ p e ha hc hk s m args below hf hA hF happ hP
  obtain ⟨hcalls, hrest, hpre⟩ := hP
  obtain ⟨-, -, -, hnamed, -, -, -, hat⟩ := (Spec.applies_iff hf).mp happ
  obtain ⟨hg, hn⟩ := and_e (Cond.before_iff.mp (show (Jvm.Cond.and given_1 narrow_1).before args s = true from hpre))
  obtain ⟨hg_1, hg_2⟩ := and_e hg
  obtain ⟨hg_3, hg_4⟩ := and_e hg_2
  obtain ⟨hn_1, hn_2⟩ := and_e hn
  obtain ⟨hn_3, hn_4⟩ := and_e hn_2
  obtain ⟨hn_5, hn_6⟩ := and_e hn_4
  obtain ⟨hn_7, hn_8⟩ := and_e hn_6
  obtain ⟨hn_9, hn_10⟩ := and_e hn_8
  obtain ⟨hn_11, hn_12⟩ := and_e hn_10
  obtain ⟨hn_13, hn_14⟩ := and_e hn_12
  obtain ⟨hn_15, hn_16⟩ := and_e hn_14
  obtain ⟨w0, w1, rfl⟩ : ∃ w0 w1 : Value, args = #[w0, w1] := by
    have hs : args.size = 2 := by simpa [Cond.value, given_1] using hg_1
    obtain ⟨L⟩ := args
    match L, hs with
    | [w0, w1], _ => exact ⟨w0, w1, rfl⟩
  have hw := fun d (hd : d ∈ tables_1) => atoms_spec (ws := Jvm.Cond.code x code maxLocals ret :: tables_1) hat d (List.mem_cons_of_mem _ hd)
  have hfit : Fit s := fun {y c} hc i hi => by
    obtain ⟨ha, rfl⟩ := Array.getElem?_eq_some_iff.mp hc
    have q := List.all_eq_true.mp ((Array.all_eq_true_iff_forall_mem.mp hF) _ (Array.getElem_mem ha)) i (List.mem_range.mpr hi)
    simpa [Array.getElem?_eq_getElem hi] using q
  obtain ⟨i0, ei0⟩ := is_v hg_3
  obtain rfl : w0 = (.int i0) := Option.some.inj ei0
  obtain ⟨i1, ei1⟩ := is_v hg_4
  obtain rfl : w1 = (.int i1) := Option.some.inj ei1
  obtain ⟨gw1, evgw1⟩ := exa_v hn_7
  have sgw1 := Sta.start evgw1 (Or.inr ⟨(hw _ (List.mem_of_getElem? (i := 2) rfl)), (hw _ (List.mem_of_getElem? (i := 16) rfl))⟩)
  have xgw1 := Exa.start evgw1 hn_7
  obtain ⟨gw2, evgw2⟩ := exa_v hn_11
  have sgw2 := Sta.start evgw2 (Or.inr ⟨(hw _ (List.mem_of_getElem? (i := 2) rfl)), (hw _ (List.mem_of_getElem? (i := 17) rfl))⟩)
  have xgw2 := Exa.start evgw2 hn_11
  obtain ⟨gwA, evA⟩ := exa_v hn_3
  have sgA := Sta.start evA (Or.inr ⟨(hw _ (List.mem_of_getElem? (i := 2) rfl)), (hw _ (List.mem_of_getElem? (i := 8) rfl))⟩)
  have xgA := Exa.start evA hn_3
  obtain ⟨clA, aA⟩ := Arr.start evA hn_1
  have lA := own_len evA aA (eqv_i (Term.int_eval _) hn_5)
  have el0 := own_elem evA aA (own_eqR evgw1 hn_9) (by decide)
  have el1 := own_elem evA aA (own_eqR evgw2 hn_13) (by decide)
  have vA : Arv s s.heap gwA clA.cls (.object "com/example/saasy/saasy/koogallerycommon/KooGalleryCipher$EncryptType") (2 : Int32) [(.ref gw1), (.ref gw2)] .null := Arv.start hfit aA lA.2 lA.1 (by decide) rfl ⟨el0, el1, trivial⟩
  have fgw1 : Fld s s.heap gw1 "com/example/saasy/saasy/koogallerycommon/KooGalleryCipher$EncryptType" "number" "I" (.int (1 : Int32)) := Fld.start ((fld_at evgw1).symm.trans (eqv_i (Term.int_eval _) hn_15))
  have fgw2 : Fld s s.heap gw2 "com/example/saasy/saasy/koogallerycommon/KooGalleryCipher$EncryptType" "number" "I" (.int (2 : Int32)) := Fld.start ((fld_at evgw2).symm.trans (eqv_i (Term.int_eval _) hn_16))
  obtain ⟨n, o, h1, h2, h3, _, L, rfl, ⟨N, -, rfl⟩, hq⟩ := rm0 l s _ hw tables_1 i0 i1 s.heap s.heap.size (Old.start s) gw1 gw2 gwA clA.cls ⟨sgw1, xgw1, sgw2, xgw2, sgA, xgA, vA, fgw1, fgw2⟩ p e ha hc hk s m _ below hf ((Spec.applies_iff_loose hf).mp happ).1 ⟨rfl, State.Warmed39.refl s, rfl⟩ trivial
  refine ⟨n, _, h1, h2, h3, hpost _ _ _ _ _ _ ⟨Cond.after_iff.mpr rfl, Cond.after_iff.mpr (eq_i res_at (Term.int_eval (1)) rfl), trivial⟩ ⟨hq.1, hq.2.1, (hq.2.2.sift fun y hy => Or.inr (N y hy)).mono (by decide) (by decide)⟩⟩
theorem main_1_1 : Claimed_1_1 := comes_1 fun _ _ _ _ _ _ h hF => ⟨h.1, hF⟩
theorem main_1_2 : Claimed_1_2 := comes_1 fun _ _ _ _ _ _ h hF => ⟨h.2.1, hF⟩
end Jvm.Pilot.@@N@@
namespace Jvm.Pilot.@@N@@
open Jvm Jvm.ClassFile Sem Op Lib Jvm.Free Jvm.Stand Jvm.Pilot.@@N@@.Jvm.D
/-! MADE BY PROGRAM (witnessworld.py) out of the Statement's table words and the real class files: 13 classes; the members and pool entries that the words name. The judged class is class 1, her method 1. -/
namespace start1
open Jvm.ClassFile
def u (s : String) : CpInfo := .utf8 (stringToUtf16 s)
/-- a pool by its gaps: so many unusable entries, then the entry; so many at the end -/
def gap : Nat → List CpInfo → List CpInfo
  | 0, r => r
  | n + 1, r => .unusable :: gap n r
def poolList (es : List (Nat × CpInfo)) (last : Nat) : List CpInfo := es.foldr (fun e r => gap e.1 (e.2 :: r)) (gap last [])
def pool (es : List (Nat × CpInfo)) (last : Nat) : Array CpInfo := ⟨poolList es last⟩
def fileOf (pool : Array CpInfo) (this : Nat) (attrs : Array Attribute := #[]) (ms : Array MethodInfo := #[]) (fl : Nat := 33) (sup : Nat := 0) (ifs : Array Nat := #[]) (fds : Array FieldInfo := #[]) : ClassFile where
  minorVersion := 0
  majorVersion := 65
  constantPool := pool
  accessFlags := fl
  thisClass := this
  superClass := sup
  interfaces := ifs
  fields := fds
  methods := ms
  attributes := attrs
def plain (name : String) (sup : Option ClassId) : Class where
  name := name
  kind := .ordinary
  loader := none
  accessFlags := 33
  super := sup
  interfaces := #[]
  cf := none
  fields := #[]
  methods := #[]
  instanceTypes := #[]
  staticTypes := #[]
  resolved := #[]
  callSites := []
  init := .initialized
  statics := none
  mirror := none

def pool0 : Array CpInfo := pool [(5, u "<init>"), (0, u "()V"), (1, .class_ 10), (1, u "java/lang/Object"), (85, u "clone"), (0, u "()Ljava/lang/Object;")] 26

def k0m0 : Method := { name := "<init>", desc := "()V", sig := { parameters := [], returnType := none }, accessFlags := 1, code := none }
def k0m1 : Method := { name := "clone", desc := "()Ljava/lang/Object;", sig := { parameters := [], returnType := some (.object "java/lang/Object") }, accessFlags := 260, code := none }
/-- java/lang/Object -/
def k0 : Class := { plain "java/lang/Object" none with
  accessFlags := 33
  interfaces := #[]
  cf := some (fileOf pool0 8 #[] #[{ accessFlags := 1, nameIndex := 5, descriptorIndex := 6, attributes := #[] }, { accessFlags := 260, nameIndex := 96, descriptorIndex := 97, attributes := #[] }] 33 0 #[] #[])
  fields := #[]
  methods := #[k0m0, k0m1]
  instanceTypes := #[]
  staticTypes := #[]
  resolved := Array.replicate 124 none
  statics := none }

def pool1 : Array CpInfo := pool [(2, .class_ 4), (1, u "java/lang/Object"), (0, u "<init>"), (0, u "()V"), (0, .methodref 8 9), (0, .class_ 10), (0, .nameAndType 11 12), (0, u "com/example/saasy/saasy/koogallerycommon/KooGalleryCipher$EncryptType"), (0, u "numbered"), (0, u "(I)Lcom/example/saasy/saasy/koogallerycommon/KooGalleryCipher$EncryptType;"), (0, .fieldref 8 14), (0, .nameAndType 15 16), (0, u "AES_256"), (0, u "Lcom/example/saasy/saasy/koogallerycommon/KooGalleryCipher$EncryptType;"), (0, .fieldref 8 18), (0, .nameAndType 19 16), (0, u "AES_128"), (0, .methodref 8 21), (0, .nameAndType 22 23), (0, u "number"), (0, u "()I"), (0, .class_ 25), (0, u "com/example/saasy/saasy/koogallerycommon/EncryptTypeNumberedPinLaw"), (2, u "law"), (0, u "(II)Z")] 7

def k1m0 : Method := { name := "<init>", desc := "()V", sig := { parameters := [], returnType := none }, accessFlags := 2, code := none }
def k1c1 : Code := { maxStack := 2, maxLocals := 6, code := code, exceptionTable := #[], attributes := #[] }
def k1m1 : Method := { name := "law", desc := "(II)Z", sig := { parameters := [.int, .int], returnType := some .boolean }, accessFlags := 9, code := some k1c1 }
/-- com/example/saasy/saasy/koogallerycommon/EncryptTypeNumberedPinLaw -/
def k1 : Class := { plain "com/example/saasy/saasy/koogallerycommon/EncryptTypeNumberedPinLaw" (some 0) with
  accessFlags := 49
  interfaces := #[]
  cf := some (fileOf pool1 24 #[] #[{ accessFlags := 2, nameIndex := 5, descriptorIndex := 6, attributes := #[] }, { accessFlags := 9, nameIndex := 28, descriptorIndex := 29, attributes := #[] }] 49 2 #[] #[])
  fields := #[]
  methods := #[k1m0, k1m1]
  instanceTypes := #[]
  staticTypes := #[]
  resolved := Array.replicate 37 none
  statics := none }

def pool2 : Array CpInfo := pool [(1, .class_ 2), (0, u "java/lang/constant/Constable"), (0, .class_ 4), (0, u "java/lang/Object")] 6

/-- java/lang/constant/Constable -/
def k2 : Class := { plain "java/lang/constant/Constable" (some 0) with
  accessFlags := 1537
  interfaces := #[]
  cf := some (fileOf pool2 1 #[] #[] 1537 3 #[] #[])
  fields := #[]
  methods := #[]
  instanceTypes := #[]
  staticTypes := #[]
  resolved := Array.replicate 11 none
  statics := none }

def pool3 : Array CpInfo := pool [(1, .class_ 2), (0, u "java/lang/Comparable"), (0, .class_ 4), (0, u "java/lang/Object")] 7

/-- java/lang/Comparable -/
def k3 : Class := { plain "java/lang/Comparable" (some 0) with
  accessFlags := 1537
  interfaces := #[]
  cf := some (fileOf pool3 1 #[] #[] 1537 3 #[] #[])
  fields := #[]
  methods := #[]
  instanceTypes := #[]
  staticTypes := #[]
  resolved := Array.replicate 12 none
  statics := none }

def pool4 : Array CpInfo := pool [(1, .class_ 2), (0, u "java/io/Serializable"), (0, .class_ 4), (0, u "java/lang/Object")] 2

/-- java/io/Serializable -/
def k4 : Class := { plain "java/io/Serializable" (some 0) with
  accessFlags := 1537
  interfaces := #[]
  cf := some (fileOf pool4 1 #[] #[] 1537 3 #[] #[])
  fields := #[]
  methods := #[]
  instanceTypes := #[]
  staticTypes := #[]
  resolved := Array.replicate 7 none
  statics := none }

def pool5 : Array CpInfo := pool [(2, .class_ 4), (1, u "java/lang/Enum"), (0, u "name"), (0, u "Ljava/lang/String;"), (2, u "ordinal"), (0, u "I"), (1, .class_ 14), (1, u "java/lang/Object"), (4, u "hash"), (86, .class_ 108), (1, u "java/lang/Enum$EnumDesc"), (2, .class_ 112), (0, u "java/lang/constant/Constable"), (0, .class_ 114), (0, u "java/lang/Comparable"), (0, .class_ 116), (0, u "java/io/Serializable")] 87

/-- java/lang/Enum -/
def k5 : Class := { plain "java/lang/Enum" (some 0) with
  accessFlags := 1057
  interfaces := #[2, 3, 4]
  cf := some (fileOf pool5 2 #[.nestMembers #[106]] #[] 1057 12 #[111, 113, 115] #[{ accessFlags := 18, nameIndex := 5, descriptorIndex := 6, attributes := #[] }, { accessFlags := 18, nameIndex := 9, descriptorIndex := 10, attributes := #[] }, { accessFlags := 2, nameIndex := 19, descriptorIndex := 10, attributes := #[] }])
  fields := #[{ name := "name", type := (.object "java/lang/String"), accessFlags := 18, slot := 0, constantValue := 0 }, { name := "ordinal", type := .int, accessFlags := 18, slot := 1, constantValue := 0 }, { name := "hash", type := .int, accessFlags := 2, slot := 2, constantValue := 0 }]
  methods := #[]
  instanceTypes := #[(.object "java/lang/String"), .int, .int]
  staticTypes := #[]
  resolved := Array.replicate 204 none
  statics := none }

def pool6 : Array CpInfo := pool [(1, .class_ 2), (0, u "com/example/saasy/saasy/koogallerycommon/KooGalleryCipher$EncryptType"), (2, u "AES_256"), (0, u "Lcom/example/saasy/saasy/koogallerycommon/KooGalleryCipher$EncryptType;"), (2, u "AES_128"), (0, .fieldref 1 11), (0, .nameAndType 12 13), (0, u "$VALUES"), (0, u "[Lcom/example/saasy/saasy/koogallerycommon/KooGalleryCipher$EncryptType;"), (0, .methodref 15 16), (0, .class_ 13), (0, .nameAndType 17 18), (0, u "clone"), (0, u "()Ljava/lang/Object;"), (1, .class_ 22), (1, u "java/lang/Enum"), (6, .fieldref 1 30), (0, .nameAndType 31 32), (0, u "number"), (0, u "I"), (2, u "keyBits"), (0, .methodref 1 37), (0, .nameAndType 38 39), (0, u "values"), (0, u "()[Lcom/example/saasy/saasy/koogallerycommon/KooGalleryCipher$EncryptType;"), (14, u "()I"), (0, u "numbered"), (0, u "(I)Lcom/example/saasy/saasy/koogallerycommon/KooGalleryCipher$EncryptType;"), (7, .class_ 65), (0, u "com/example/saasy/saasy/koogallerycommon/KooGalleryCipher")] 2

def k6c0 : Code := { maxStack := 1, maxLocals := 0, code := prog_10_method_1_code, exceptionTable := #[], attributes := #[] }
def k6m0 : Method := { name := "values", desc := "()[Lcom/example/saasy/saasy/koogallerycommon/KooGalleryCipher$EncryptType;", sig := { parameters := [], returnType := some (.array (.object "com/example/saasy/saasy/koogallerycommon/KooGalleryCipher$EncryptType")) }, accessFlags := 9, code := some k6c0 }
def k6c1 : Code := { maxStack := 1, maxLocals := 1, code := prog_10_method_4_code, exceptionTable := #[], attributes := #[] }
def k6m1 : Method := { name := "number", desc := "()I", sig := { parameters := [], returnType := some .int }, accessFlags := 1, code := some k6c1 }
def k6c2 : Code := { maxStack := 2, maxLocals := 5, code := prog_10_method_5_code, exceptionTable := #[], attributes := #[] }
def k6m2 : Method := { name := "numbered", desc := "(I)Lcom/example/saasy/saasy/koogallerycommon/KooGalleryCipher$EncryptType;", sig := { parameters := [.int], returnType := some (.object "com/example/saasy/saasy/koogallerycommon/KooGalleryCipher$EncryptType") }, accessFlags := 9, code := some k6c2 }
/-- com/example/saasy/saasy/koogallerycommon/KooGalleryCipher$EncryptType -/
def k6 : Class := { plain "com/example/saasy/saasy/koogallerycommon/KooGalleryCipher$EncryptType" (some 5) with
  accessFlags := 16433
  interfaces := #[]
  cf := some (fileOf pool6 1 #[.nestHost 64] #[{ accessFlags := 9, nameIndex := 38, descriptorIndex := 39, attributes := #[] }, { accessFlags := 1, nameIndex := 31, descriptorIndex := 54, attributes := #[] }, { accessFlags := 9, nameIndex := 55, descriptorIndex := 56, attributes := #[] }] 16433 20 #[] #[{ accessFlags := 16409, nameIndex := 5, descriptorIndex := 6, attributes := #[] }, { accessFlags := 16409, nameIndex := 9, descriptorIndex := 6, attributes := #[] }, { accessFlags := 18, nameIndex := 31, descriptorIndex := 32, attributes := #[] }, { accessFlags := 18, nameIndex := 35, descriptorIndex := 32, attributes := #[] }, { accessFlags := 4122, nameIndex := 12, descriptorIndex := 13, attributes := #[] }])
  fields := #[{ name := "AES_256", type := (.object "com/example/saasy/saasy/koogallerycommon/KooGalleryCipher$EncryptType"), accessFlags := 16409, slot := 0, constantValue := 0 }, { name := "AES_128", type := (.object "com/example/saasy/saasy/koogallerycommon/KooGalleryCipher$EncryptType"), accessFlags := 16409, slot := 1, constantValue := 0 }, { name := "number", type := .int, accessFlags := 18, slot := 3, constantValue := 0 }, { name := "keyBits", type := .int, accessFlags := 18, slot := 4, constantValue := 0 }, { name := "$VALUES", type := (.array (.object "com/example/saasy/saasy/koogallerycommon/KooGalleryCipher$EncryptType")), accessFlags := 4122, slot := 2, constantValue := 0 }]
  methods := #[k6m0, k6m1, k6m2]
  instanceTypes := #[(.object "java/lang/String"), .int, .int, .int, .int]
  staticTypes := #[(.object "com/example/saasy/saasy/koogallerycommon/KooGalleryCipher$EncryptType"), (.object "com/example/saasy/saasy/koogallerycommon/KooGalleryCipher$EncryptType"), (.array (.object "com/example/saasy/saasy/koogallerycommon/KooGalleryCipher$EncryptType"))]
  resolved := Array.replicate 68 none
  statics := some 0 }

def pool7 : Array CpInfo := pool [(1, .class_ 2), (0, u "java/lang/Cloneable"), (0, .class_ 4), (0, u "java/lang/Object")] 2

/-- java/lang/Cloneable -/
def k7 : Class := { plain "java/lang/Cloneable" (some 0) with
  accessFlags := 1537
  interfaces := #[]
  cf := some (fileOf pool7 1 #[] #[] 1537 3 #[] #[])
  fields := #[]
  methods := #[]
  instanceTypes := #[]
  staticTypes := #[]
  resolved := Array.replicate 7 none
  statics := none }

/-- the primitive byte -/
def k8 : Class := { plain "byte" none with kind := .primitive 'B', accessFlags := 0x411 }
/-- [B -/
def k9 : Class := { plain "[B" (some 0) with kind := .array 8 .byte, interfaces := #[7, 4], accessFlags := 1041 }

/-- the primitive int -/
def k10 : Class := { plain "int" none with kind := .primitive 'I', accessFlags := 0x411 }
/-- [I -/
def k11 : Class := { plain "[I" (some 0) with kind := .array 10 .int, interfaces := #[7, 4], accessFlags := 1041 }

/-- [Lcom/example/saasy/saasy/koogallerycommon/KooGalleryCipher$EncryptType; -/
def k12 : Class := { plain "[Lcom/example/saasy/saasy/koogallerycommon/KooGalleryCipher$EncryptType;" (some 0) with kind := .array 6 (.object "com/example/saasy/saasy/koogallerycommon/KooGalleryCipher$EncryptType"), interfaces := #[7, 4], accessFlags := 1041 }

def heap : Heap := #[{ cls := 6, slots := #[.ref 2, .ref 3, .ref 1], vm := .statics 6 },
  { cls := 12, slots := #[.ref 2, .ref 3], vm := .none },
  { cls := 6, slots := #[.null, .int 0, .int 0, .int 1, .int 32], vm := .none },
  { cls := 6, slots := #[.null, .int 1, .int 0, .int 2, .int 16], vm := .none }]
def classes : Array Class := #[k0, k1, k2, k3, k4, k5, k6, k7, k8, k9, k10, k11, k12]
def interned : List (Array UInt16 × Addr) := []
def slotsUsed : Nat := 15
def theMethod : MethodId := ⟨1, 1⟩
def args0 : Array Value := #[.int 5, .int 2]
def aboutOver (below : List Frame) : State where
  vm := { classes := classes, interned := interned.toArray }
  heap := heap
  slotsUsed := slotsUsed
  threads := #[{ frames := .invoking theMethod args0 :: below }]
def below0 : List Frame := [.native { method := ⟨0, 0⟩, args := #[] }]
def about1 : State := aboutOver below0
def p0 : Program := .bare "" "" ""
def e0 : Env := launch0.env 0 0 0
theorem w_frames : about1.frames = Frame.invoking theMethod args0 :: below0 := rfl
set_option maxRecDepth 65536 in
theorem w_args : argsFit about1.vm theMethod args0 = true := by decide +kernel
set_option maxRecDepth 65536 in
theorem w_heap : heapFits about1 = true := by decide +kernel
set_option maxRecDepth 65536 in
theorem w_runnable : about1.curStatus? = some .runnable := by decide +kernel
set_option maxRecDepth 65536 in
theorem w_alone : about1.alone = true := by decide +kernel
set_option maxRecDepth 65536 in
theorem w_named : about1.methodNamed? x = some theMethod := by decide +kernel
set_option maxRecDepth 65536 in
theorem w_hears : about1.hears theMethod below0 = true := by decide +kernel
set_option maxRecDepth 65536 in
theorem w_ripe : about1.ripe theMethod args0 below0 = true := by decide +kernel
theorem w_running : about1.status = .running := rfl
set_option maxRecDepth 65536 in
theorem w_room : about1.hasRoom e0.platform room_1 = true :=
  launch0.hasRoom_least _ room_1 (by decide +kernel) (by decide +kernel) (by decide +kernel) (by decide +kernel) (by decide +kernel) (by decide +kernel)
theorem allAtoms_all (ts : List Jvm.Cond) (a : Array Jvm.Value) (st : Jvm.State) : (allAtoms ts).before a st = ts.all (fun c => c.before a st) := by
  induction ts with
  | nil => rfl
  | cons c t ih =>
    show (Jvm.Cond.and c (allAtoms t)).before a st = _
    rw [Jvm.Cond.before_and, ih, List.all_cons]
def words1 : List Jvm.Cond := Jvm.Cond.code x code maxLocals ret :: tables_1
/-- a 'code' word, met by the world's own term for the bytes: nothing is compared byte by byte -/
theorem code_word {y : MethodName} {bytes : ByteArray} {mx : Nat} {rt : Option FieldType} {a : Array Value} {s : State} {m : MethodId} {meth : Method} {c : Code} (h1 : s.methodNamed? y = some m) (h2 : s.vm.method? m = some meth) (h3 : meth.code = some c) (h4 : c.code = bytes)
    (h5 : (c.maxLocals == mx && c.exceptionTable.isEmpty && decide (c.maxStack ≤ mostOperands) && decide (meth.sig.returnType = rt) && !meth.locks && decide (parseMethodDescriptor y.desc = some meth.sig)) = true) : (Jvm.Cond.code y bytes mx rt).before a s = true := by
  simp only [Bool.and_eq_true, beq_iff_eq, Bool.not_eq_true', decide_eq_true_eq] at h5
  obtain ⟨⟨⟨⟨⟨g1, g2⟩, g3⟩, g4⟩, g5⟩, g6⟩ := h5
  simp [Cond.before, Cond.holds, Cond.value, h1, h2, h3, h4, g1, g2, g3, g4, g5, g6]
def isCode : Jvm.Cond → Bool
  | .code _ _ _ _ => true
  | _ => false
theorem all_split {L : List Jvm.Cond} {P : Jvm.Cond → Bool} (h1 : L.all (fun c => isCode c || P c) = true) (h2 : ∀ c ∈ L.filter isCode, P c = true) : L.all P = true := by
  refine List.all_eq_true.mpr fun c hc => ?_
  have h := List.all_eq_true.mp h1 c hc
  rcases Bool.eq_false_or_eq_true (isCode c) with hi | hi
  · exact h2 c (List.mem_filter.mpr ⟨hc, hi⟩)
  · simpa [hi] using h
set_option maxRecDepth 65536 in
theorem w_c0 : (Jvm.Cond.code x code maxLocals ret).before args0 about1 = true := code_word (m := ⟨1, 1⟩) (meth := k1m1) (c := k1c1) (by decide +kernel) rfl rfl rfl (by decide +kernel)
set_option maxRecDepth 65536 in
theorem w_c1 : (Jvm.Cond.code ({ cls := "com/example/saasy/saasy/koogallerycommon/KooGalleryCipher$EncryptType", name := "numbered", desc := "(I)Lcom/example/saasy/saasy/koogallerycommon/KooGalleryCipher$EncryptType;" } : Jvm.MethodName) prog_10_method_5_code (5 : Nat) (Option.some (Jvm.ClassFile.FieldType.object "com/example/saasy/saasy/koogallerycommon/KooGalleryCipher$EncryptType"))).before args0 about1 = true := code_word (m := ⟨6, 2⟩) (meth := k6m2) (c := k6c2) (by decide +kernel) rfl rfl rfl (by decide +kernel)
set_option maxRecDepth 65536 in
theorem w_c2 : (Jvm.Cond.code ({ cls := "com/example/saasy/saasy/koogallerycommon/KooGalleryCipher$EncryptType", name := "values", desc := "()[Lcom/example/saasy/saasy/koogallerycommon/KooGalleryCipher$EncryptType;" } : Jvm.MethodName) prog_10_method_1_code (0 : Nat) (Option.some (Jvm.ClassFile.FieldType.array (Jvm.ClassFile.FieldType.object "com/example/saasy/saasy/koogallerycommon/KooGalleryCipher$EncryptType")))).before args0 about1 = true := code_word (m := ⟨6, 0⟩) (meth := k6m0) (c := k6c0) (by decide +kernel) rfl rfl rfl (by decide +kernel)
set_option maxRecDepth 65536 in
theorem w_c3 : (Jvm.Cond.code ({ cls := "com/example/saasy/saasy/koogallerycommon/KooGalleryCipher$EncryptType", name := "number", desc := "()I" } : Jvm.MethodName) prog_10_method_4_code (1 : Nat) (Option.some Jvm.ClassFile.FieldType.int)).before args0 about1 = true := code_word (m := ⟨6, 1⟩) (meth := k6m1) (c := k6c1) (by decide +kernel) rfl rfl rfl (by decide +kernel)
def codes1 : List Jvm.Cond := [Jvm.Cond.code x code maxLocals ret, Jvm.Cond.code ({ cls := "com/example/saasy/saasy/koogallerycommon/KooGalleryCipher$EncryptType", name := "numbered", desc := "(I)Lcom/example/saasy/saasy/koogallerycommon/KooGalleryCipher$EncryptType;" } : Jvm.MethodName) prog_10_method_5_code (5 : Nat) (Option.some (Jvm.ClassFile.FieldType.object "com/example/saasy/saasy/koogallerycommon/KooGalleryCipher$EncryptType")), Jvm.Cond.code ({ cls := "com/example/saasy/saasy/koogallerycommon/KooGalleryCipher$EncryptType", name := "values", desc := "()[Lcom/example/saasy/saasy/koogallerycommon/KooGalleryCipher$EncryptType;" } : Jvm.MethodName) prog_10_method_1_code (0 : Nat) (Option.some (Jvm.ClassFile.FieldType.array (Jvm.ClassFile.FieldType.object "com/example/saasy/saasy/koogallerycommon/KooGalleryCipher$EncryptType"))), Jvm.Cond.code ({ cls := "com/example/saasy/saasy/koogallerycommon/KooGalleryCipher$EncryptType", name := "number", desc := "()I" } : Jvm.MethodName) prog_10_method_4_code (1 : Nat) (Option.some Jvm.ClassFile.FieldType.int)]
set_option maxRecDepth 65536 in
theorem codes_eq : words1.filter isCode = codes1 := rfl
theorem w_codes : ∀ c ∈ words1.filter isCode, c.before args0 about1 = true := by
  rw [codes_eq]
  intro c hc
  simp only [codes1, List.mem_cons, List.not_mem_nil, or_false] at hc
  rcases hc with rfl | rfl | rfl | rfl
  · exact w_c0
  · exact w_c1
  · exact w_c2
  · exact w_c3
set_option maxRecDepth 65536 in
theorem w_t1 : (words1.take 24).all (fun c => isCode c || c.before args0 about1) = true := by decide +kernel
set_option maxRecDepth 65536 in
theorem w_t2 : (words1.drop 24).all (fun c => isCode c || c.before args0 about1) = true := by decide +kernel
theorem w_tables : (allAtoms (Jvm.Cond.code x code maxLocals ret :: tables_1)).before args0 about1 = true := by
  rw [allAtoms_all]
  show words1.all (fun c => c.before args0 about1) = true
  refine all_split ?_ w_codes
  rw [← List.take_append_drop 24 words1, List.all_append, w_t1, w_t2]
  rfl
set_option maxRecDepth 65536 in
theorem w_case : (Jvm.Cond.and given_1 narrow_1).before args0 about1 = true := by decide +kernel
theorem w_applies : (headSpec (Jvm.Cond.code x code maxLocals ret :: tables_1) room_1).applies x e0.platform about1 = true :=
  (Spec.applies_iff w_frames).mpr ⟨w_running, w_runnable, w_alone, w_named, w_hears, w_ripe, w_room, w_tables⟩
theorem atStart : AtStart classFile x code maxLocals ret World_1 tables_1 room_1 Calls_1 rest_1 Pre_1 launch0 p0 e0 about1 theMethod args0 below0 :=
  ⟨lists_1, trivial, launch0.admits_env _ _ _, launch0.least_env, fairChoices_fair.cas, fairChoices_fair.clock, w_frames, w_args, w_heap, w_applies, trivial, trivial, w_case⟩
end start1
theorem witness_1 : WitnessClaimed_1 := ⟨start1.p0, start1.e0, start1.about1, start1.theMethod, start1.args0, start1.below0, start1.atStart⟩
end Jvm.Pilot.@@N@@
