import JvmDerived
import JvmDerived.Pilot.@@N@@Statement
import JvmDerived.Pilot.@@N@@Code
set_option linter.unusedVariables false
set_option linter.unusedSimpArgs false
namespace Jvm.Pilot.@@N@@
open Jvm Jvm.ClassFile Sem Op Lib Jvm.Free Jvm.Stand Jvm.LawKit Jvm.RoadKit Bundle Jvm.Pilot.@@N@@.Jvm.D
section OwnKit
variable {p : Program} {l : Launch} {e : Env} {R : Room} {s : State} {m : MethodId} {args : Array Value} {below : List Frame} {meth : Method} {c : Code} {T : State} {locs : List Loc} {cells slots : Nat}
def own_Goes (p : Program) (e : Env) (below : List Frame) (U : State) (Q : Outcome → State → Prop) : Prop := ∃ (t : State) (o : Outcome), Steps p.tables e below U t ∧ t.status = .running ∧ Ended t below o ∧ Q o t
theorem own_go {U U' : State} {Q : Outcome → State → Prop} (k : ∀ t, Steps p.tables e below U' t → Steps p.tables e below U t) (h : own_Goes p e below U' Q) : own_Goes p e below U Q := by
  obtain ⟨t, o, h1, h2⟩ := h
  exact ⟨t, o, k t h1, h2⟩
theorem own_goS {U U' : State} {Q : Outcome → State → Prop} (k : Steps p.tables e below U U') (h : own_Goes p e below U' Q) : own_Goes p e below U Q := own_go (fun t h => k.trans h) h
theorem own_cast {g g' : JFrame} {Q : Outcome → State → Prop} (q : g = g') (h : own_Goes p e below (T.setTop g') Q) : own_Goes p e below (T.setTop g) Q := q ▸ h
def own_PostN (s : State) (Qc : Option Value → Heap → List Loc → Prop) (k n : Nat) : Outcome → State → Prop := fun o t => ∃ v L, o = .returned v ∧ Qc v t.heap L ∧ FrameEnd s o t L k n
def own_PostW (s : State) (Qc : Option Value → Heap → List Loc → Prop) (k n : Nat) : Outcome → State → Prop := fun o t => ∃ v L, o = .returned v ∧ Qc v t.heap L ∧ ReturnedEndW s o t L k n
theorem own_endN (X : Stand p l e R s m args below meth c T locs cells slots) {v : Option Value} (hv : meth.sig.returnType = none → v = none) (hlocks : meth.locks = false) {Qc : Option Value → Heap → List Loc → Prop} {k n : Nat} (hk : cells ≤ k) (hn : slots ≤ n) (hQ : Qc v T.heap locs) {U : State}
    (st : ∀ fs, (∀ (f : JFrame) (acts : List Action), f.method = m → f.locked = none → f.entered = [] → (doReturn e (T.setTop f) acts v).1 = T.setFrames fs) → Steps p.tables e below U (T.setFrames fs)) : own_Goes p e below U (own_PostN s Qc k n) := by
  obtain ⟨fs, hr, hrun, hended, hW, hsame⟩ := X.leave hv hlocks
  exact ⟨_, _, st fs hr, hrun, hended, _, _, rfl, hQ, ⟨_, rfl⟩, hW, hsame.mono hk hn⟩
theorem own_endW {vm0 : Vm} (X : Stand p l e R (s.setVm vm0) m args below meth c T locs cells slots) {q : Nat} (hS : s.Since vm0 q) (hq : q ≤ T.heap.size) {v : Option Value} (hv : meth.sig.returnType = none → v = none) (hlocks : meth.locks = false) {Qc : Option Value → Heap → List Loc → Prop} {k n : Nat} (hk : cells ≤ k) (hn : slots ≤ n) (hQ : Qc v T.heap locs) {U : State}
    (st : ∀ fs, (∀ (f : JFrame) (acts : List Action), f.method = m → f.locked = none → f.entered = [] → (doReturn e (T.setTop f) acts v).1 = T.setFrames fs) → Steps p.tables e below U (T.setFrames fs)) : own_Goes p e below U (own_PostW s Qc k n) := by
  obtain ⟨fs, hr, hrun, hended, h1, h2, h3, h4⟩ := X.leaveW hS hq hv hlocks
  exact ⟨_, _, st fs hr, hrun, hended, _, _, rfl, hQ, h1, h2, h3, h4.mono hk hn⟩
theorem own_ne {a b : Nat} (h : a < b ∨ b < a) : a ≠ b := by omega
theorem own_NSroot {Z : State} {a0 : Array Value} {O K : String} {n : Nat} (w : (Cond.noSuperclass O).before a0 Z = true) (wk : (Cond.instantiable K n).before a0 Z = true) (hn : O ≠ K) : NS Z O K := by
  obtain ⟨c, k, h1, h2, h3, -, -⟩ := Cond.noSuperclass_spec w
  obtain ⟨t, kt, g1, -⟩ := Cond.instantiable_spec wk
  have ne := ids_ne h1 g1 hn
  refine ⟨c, t, h1, g1, fun fuel => ?_⟩
  cases fuel with
  | zero => rfl
  | succ f => simp [Vm.isSubclassAux, ne, h2, h3]
theorem own_NSno {Z : State} {a0 : Array Value} {C S K : String} {m : Nat} (w : (Cond.superclass C S).before a0 Z = true) (wk : (Cond.instantiable K m).before a0 Z = true) (n : NS Z C K) (hn : C ≠ K) : ∃ c t, Z.vm.findClass C = some c ∧ Z.vm.findClass K = some t ∧ Z.vm.assignable c t = false := by
  obtain ⟨c, t, h0, g0, n3⟩ := n
  obtain ⟨p, k, kp, h1, h2, h3, h4, h5, -, h7⟩ := Cond.superclass_spec h0 w
  obtain ⟨t', k', g1, g2, g5, g7, -⟩ := Cond.instantiable_spec wk
  cases g0.symm.trans g1
  have g8 : k'.isInterface = false := (Bool.or_eq_false_iff.mp g7).1
  have ne := ids_ne h0 g0 hn
  refine ⟨c, t, h0, g0, ?_⟩
  show Z.vm.assignableAux (255 + 1) c t = false
  simp [Vm.assignableAux, ne, h2, g2, h5, g5, g8, Vm.isSubclass, n3]
theorem own_fitsR {v : Value} {t : FieldType} (h : v.isRef = true) (ht : t.isReference = true) : fits t v = true := by
  cases v <;> cases t <;> simp_all [Value.isRef, fits, FieldType.isReference]
theorem own_narR {v : Value} {t : FieldType} (h : v.isRef = true) (ht : t.isReference = true) : narrow t v = v := by
  cases v <;> cases t <;> simp_all [Value.isRef, narrow, FieldType.isReference]
end OwnKit
theorem own_sta {s : State} {args : Array Value} {C n d K : String} (h : (Cond.exactly (Term.static C n d) K).value args s none s [] = some true) (w1 : (Cond.initialized C).before args s = true) (w2 : (Cond.laysStatic C n d).before args s = true) : ∃ w, Sta s s.heap C n d (.ref w) ∧ Exa s s.heap w K := by
  obtain ⟨w, ev⟩ := exa_v h
  exact ⟨w, Sta.start ev (Or.inr ⟨w1, w2⟩), Exa.start ev h⟩
theorem own_strs {Z : State} {a0 : Array Value} (hw : ∀ d ∈ tables_1, d.before a0 Z = true) : ∀ a ∈ Bundle.stringAtoms, a.before a0 Z = true := by
  intro a ha
  simp only [Bundle.stringAtoms, List.mem_cons, List.not_mem_nil, or_false] at ha
  rcases ha with rfl | rfl | rfl | rfl | rfl | rfl | rfl
  · exact (hw _ (List.mem_of_getElem? (i := 26) rfl))
  · exact (hw _ (List.mem_of_getElem? (i := 27) rfl))
  · exact (hw _ (List.mem_of_getElem? (i := 28) rfl))
  · exact (hw _ (List.mem_of_getElem? (i := 29) rfl))
  · exact (hw _ (List.mem_of_getElem? (i := 30) rfl))
  · exact (hw _ (List.mem_of_getElem? (i := 31) rfl))
  · exact (hw _ (List.mem_of_getElem? (i := 32) rfl))
def GG (Z : State) (gw0 : Addr) (gw1 : Addr) (gw2 : Addr) (gw3 : Addr) (gw4 : Addr) : Prop := Sta Z Z.heap "com/example/breach_or_proof/breachorproof/analysis/PathStep$Branch" "ONLY" "Lcom/example/breach_or_proof/breachorproof/analysis/PathStep$Branch;" (.ref gw0) ∧ Exa Z Z.heap gw0 "com/example/breach_or_proof/breachorproof/analysis/PathStep$Branch" ∧ Fld Z Z.heap gw0 "java/lang/Enum" "ordinal" "I" (.int (0 : Int32)) ∧ Sta Z Z.heap "com/example/breach_or_proof/breachorproof/analysis/PathStep$Branch" "LEFT" "Lcom/example/breach_or_proof/breachorproof/analysis/PathStep$Branch;" (.ref gw1) ∧ Exa Z Z.heap gw1 "com/example/breach_or_proof/breachorproof/analysis/PathStep$Branch" ∧ Fld Z Z.heap gw1 "java/lang/Enum" "ordinal" "I" (.int (1 : Int32)) ∧ Sta Z Z.heap "com/example/breach_or_proof/breachorproof/analysis/PathStep$Branch" "RIGHT" "Lcom/example/breach_or_proof/breachorproof/analysis/PathStep$Branch;" (.ref gw2) ∧ Exa Z Z.heap gw2 "com/example/breach_or_proof/breachorproof/analysis/PathStep$Branch" ∧ Fld Z Z.heap gw2 "java/lang/Enum" "ordinal" "I" (.int (2 : Int32)) ∧ Sta Z Z.heap "com/example/breach_or_proof/breachorproof/analysis/PathStep$Branch" "THEN" "Lcom/example/breach_or_proof/breachorproof/analysis/PathStep$Branch;" (.ref gw3) ∧ Exa Z Z.heap gw3 "com/example/breach_or_proof/breachorproof/analysis/PathStep$Branch" ∧ Fld Z Z.heap gw3 "java/lang/Enum" "ordinal" "I" (.int (3 : Int32)) ∧ Sta Z Z.heap "com/example/breach_or_proof/breachorproof/analysis/PathStep$Branch" "ELSE" "Lcom/example/breach_or_proof/breachorproof/analysis/PathStep$Branch;" (.ref gw4) ∧ Exa Z Z.heap gw4 "com/example/breach_or_proof/breachorproof/analysis/PathStep$Branch" ∧ Fld Z Z.heap gw4 "java/lang/Enum" "ordinal" "I" (.int (4 : Int32))
def own_br (g0 g1 g2 g3 g4 : Addr) (i : Int32) : Addr := if i = 0 then g0 else if i = 1 then g1 else if i = 2 then g2 else if i = 3 then g3 else g4
theorem own_is4 {i : Int32} (h : 0 ≤ i.toInt ∧ i.toInt < 5) (h0 : ¬ i = (0 : Int32)) (h1 : ¬ i = (1 : Int32)) (h2 : ¬ i = (2 : Int32)) (h3 : ¬ i = (3 : Int32)) : i = (4 : Int32) := by
  have e0 : (0 : Int32).toInt = 0 := by decide
  have e1 : (1 : Int32).toInt = 1 := by decide
  have e2 : (2 : Int32).toInt = 2 := by decide
  have e3 : (3 : Int32).toInt = 3 := by decide
  have e4 : (4 : Int32).toInt = 4 := by decide
  rw [← Int32.toInt_inj] at *
  omega
theorem own_rng (x : Int32) : 0 ≤ ((x &&& (2147483647 : Int32)) % (5 : Int32)).toInt ∧ ((x &&& (2147483647 : Int32)) % (5 : Int32)).toInt < 5 := by
  have q := c_and x 2147483647 (by decide)
  have r := (c_irem (x &&& 2147483647) 5 5 (by decide)).1 q.1
  omega
theorem own_d5_0 : decode jdk_31_method_11_code 0 = .ok (.aload_n 0, 1) := by decide +kernel
theorem own_d5_1 : decode jdk_31_method_11_code 1 = .ok (.ifnonnull 12, 3) := by decide +kernel
theorem own_d5_13 : decode jdk_31_method_11_code 13 = .ok (.aload_n 0, 1) := by decide +kernel
theorem own_d5_14 : decode jdk_31_method_11_code 14 = .ok (.areturn, 1) := by decide +kernel
theorem own_pn_java_util_Objects : plainName "java/util/Objects" = true := by first | (simp [plainName, overriddenIn]; done) | decide +kernel
theorem own_ef_own_rnn2 (m : MethodId) (xa : Addr) (xb : Addr) : entryFrame m #[(.ref xa), (.ref xb)] 2 = mkF m 0 #[.val (.ref xa), .val (.ref xb)] [] := by first | (simp [entryFrame, mkF, argsToLocals, Value.category]; done) | rfl
def Q_own_rnn2 (Z : State) (xa : Addr) (xb : Addr) (h0 : Heap) (n0 : Nat) (v : Option Value) (h : Heap) (L : List Loc) : Prop := Fr n0 L ∧ h = h0 ∧ v = some (.ref xa)
set_option maxRecDepth 65536 in
set_option maxHeartbeats 40000000 in
theorem own_rnn2 (l : Launch) (Z : State) (a0 : Array Value) (hw : ∀ d ∈ tables_1, d.before a0 Z = true) (ws : List Jvm.Cond) (xa : Addr) (xb : Addr) (h0 : Heap) (n0 : Nat) (O0 : Old Z n0 h0) :
    MetFree l (⟨"java/util/Objects", "requireNonNull", "(Ljava/lang/Object;Ljava/lang/String;)Ljava/lang/Object;"⟩ : MethodName) (head1 (Jvm.Cond.code (⟨"java/util/Objects", "requireNonNull", "(Ljava/lang/Object;Ljava/lang/String;)Ljava/lang/Object;"⟩ : MethodName) jdk_31_method_11_code 2 (some (.object "java/lang/Object")) :: ws) ({ frames := 0, cells := 0, slots := 0, locals := 0 } : Room)) (fun as_ U_ => as_ = #[(.ref xa), (.ref xb)] ∧ Z.Warmed39 U_.vm ∧ U_.heap = h0) (fun _ _ _ _ _ => True) (fun _ U_ o_ U2_ => ∃ v_ L_, o_ = .returned v_ ∧ Q_own_rnn2 Z xa xb h0 n0 v_ U2_.heap L_ ∧ FrameEnd U_ o_ U2_ L_ ({ frames := 0, cells := 0, slots := 0, locals := 0 } : Room).cells ({ frames := 0, cells := 0, slots := 0, locals := 0 } : Room).slots) := by
  refine MetFree.of_bodySF (plainFor_of_name own_pn_java_util_Objects) hisR ?_
  intro p e s m args below meth c s₁ Bd hml0 hP hK
  obtain ⟨rfl, hZ, hh⟩ := hP
  have hx := Bd.exec
  have hby := Bd.bytes
  have hml : c.maxLocals = 2 := hml0
  have hown : s.vm.findClass "java/util/Objects" = some m.cls := findClass_of_methodNamed Bd.named
  have hnm := (name_of_methodNamed Bd.named Bd.method).1
  have hlk : meth.locks = false := Bd.notSynchronized
  have hret := Bd.returns
  have X0 : Stand p l e ({ frames := 0, cells := 0, slots := 0, locals := 0 } : Room) s m #[(.ref xa), (.ref xb)] below meth c s₁ [] 0 0 := Stand.of_body Bd
  have e0 : s₁.heap = h0 := by rw [← hh, Bd.state]; rfl
  have N0 := Fr.nil n0
  have z0 : Z.heap.size = n0 := O0.1
  have z1 : n0 ≤ h0.size := z0 ▸ O0.2.1
  show own_Goes p e below (s₁.setTop (entryFrame m #[(.ref xa), (.ref xb)] 2)) (own_PostN s (Q_own_rnn2 Z xa xb h0 n0) ({ frames := 0, cells := 0, slots := 0, locals := 0 } : Room).cells ({ frames := 0, cells := 0, slots := 0, locals := 0 } : Room).slots)
  refine own_cast (own_ef_own_rnn2 m xa xb) ?_
  show own_Goes p e below (s₁.setTop (mkF m 0 #[.val (.ref xa), .val (.ref xb)] [])) _
  refine own_go (fun t_ k_ => XS.aloadN X0.here hx rfl (hb hby own_d5_0) rfl rfl k_) ?_
  show own_Goes p e below (s₁.setTop (mkF m 1 #[.val (.ref xa), .val (.ref xb)] [(.ref xa)])) _
  refine own_go (fun t_ k_ => XS.ifnonnullYes X0.here hx rfl (pc0 := 1) (pc' := 13) rfl (hb hby own_d5_1) rfl (by decide) (by decide) k_) ?_
  show own_Goes p e below (s₁.setTop (mkF m 13 #[.val (.ref xa), .val (.ref xb)] [])) _
  refine own_go (fun t_ k_ => XS.aloadN X0.here hx rfl (hb hby own_d5_13) rfl rfl k_) ?_
  show own_Goes p e below (s₁.setTop (mkF m 14 #[.val (.ref xa), .val (.ref xb)] [(.ref xa)])) _
  refine own_endN X0 (v := (some (.ref xa))) (fun h => by rw [hret] at h; cases h) hlk (by decide) (by decide) ?_ (fun fs hr => retOut X0 hx hret rfl (Or.inr (Or.inr (Or.inr (Or.inr ⟨rfl, rfl, rfl⟩)))) (hb hby own_d5_14) hr)
  show Q_own_rnn2 Z xa xb h0 n0 _ s₁.heap _
  rw [e0]
  exact ⟨N0, rfl, rfl⟩
theorem own_d1_0 : decode prog_15_method_1_code 0 = .ok (.aload_n 0, 1) := by decide +kernel
theorem own_d1_1 : decode prog_15_method_1_code 1 = .ok (.invokespecial 1, 3) := by decide +kernel
theorem own_d1_4 : decode prog_15_method_1_code 4 = .ok (.iload_n 1, 1) := by decide +kernel
theorem own_d1_5 : decode prog_15_method_1_code 5 = .ok (.iconst 1, 1) := by decide +kernel
theorem own_d1_6 : decode prog_15_method_1_code 6 = .ok (.if_icmp .lt 8, 3) := by decide +kernel
theorem own_d1_9 : decode prog_15_method_1_code 9 = .ok (.iload_n 2, 1) := by decide +kernel
theorem own_d1_10 : decode prog_15_method_1_code 10 = .ok (.iconst 1, 1) := by decide +kernel
theorem own_d1_11 : decode prog_15_method_1_code 11 = .ok (.if_icmp .ge 18, 3) := by decide +kernel
theorem own_d1_29 : decode prog_15_method_1_code 29 = .ok (.aload_n 0, 1) := by decide +kernel
theorem own_d1_30 : decode prog_15_method_1_code 30 = .ok (.iload_n 1, 1) := by decide +kernel
theorem own_d1_31 : decode prog_15_method_1_code 31 = .ok (.putfield 16, 3) := by decide +kernel
theorem own_d1_34 : decode prog_15_method_1_code 34 = .ok (.aload_n 0, 1) := by decide +kernel
theorem own_d1_35 : decode prog_15_method_1_code 35 = .ok (.iload_n 2, 1) := by decide +kernel
theorem own_d1_36 : decode prog_15_method_1_code 36 = .ok (.putfield 22, 3) := by decide +kernel
theorem own_d1_39 : decode prog_15_method_1_code 39 = .ok (.return_, 1) := by decide +kernel
theorem own_pn_com_example_breach_or_proof_breachorproof_Location : plainName "com/example/breach_or_proof/breachorproof/Location" = true := by first | (simp [plainName, overriddenIn]; done) | decide +kernel
theorem own_ef_own_locInit (m : MethodId) (xa : Addr) : entryFrame m #[(.ref xa), (.int (1 : Int32)), (.int (1 : Int32))] 3 = mkF m 0 #[.val (.ref xa), .val (.int (1 : Int32)), .val (.int (1 : Int32))] [] := by first | (simp [entryFrame, mkF, argsToLocals, Value.category]; done) | rfl
def Q_own_locInit (Z : State) (xa : Addr) (h0 : Heap) (n0 : Nat) (v : Option Value) (h : Heap) (L : List Loc) : Prop := Fr n0 L ∧ Keep h0 h [xa] ∧ v = none
set_option maxRecDepth 65536 in
set_option maxHeartbeats 40000000 in
theorem own_locInit (l : Launch) (Z : State) (a0 : Array Value) (hw : ∀ d ∈ tables_1, d.before a0 Z = true) (ws : List Jvm.Cond) (xa : Addr) (h0 : Heap) (n0 : Nat) (O0 : Old Z n0 h0) (P0 : Exa Z h0 xa "com/example/breach_or_proof/breachorproof/Location") (P1 : Fld Z h0 xa "com/example/breach_or_proof/breachorproof/Location" "line" "I" (.int (0 : Int32))) (P2 : Fld Z h0 xa "com/example/breach_or_proof/breachorproof/Location" "column" "I" (.int (0 : Int32))) (P3 : n0 ≤ xa) :
    MetFree l (⟨"com/example/breach_or_proof/breachorproof/Location", "<init>", "(II)V"⟩ : MethodName) (head1 (Jvm.Cond.code (⟨"com/example/breach_or_proof/breachorproof/Location", "<init>", "(II)V"⟩ : MethodName) prog_15_method_1_code 3 none :: ws) ({ frames := 1, cells := 0, slots := 0, locals := 12 } : Room)) (fun as_ U_ => as_ = #[(.ref xa), (.int (1 : Int32)), (.int (1 : Int32))] ∧ Z.Warmed39 U_.vm ∧ U_.heap = h0) (fun _ _ _ _ _ => True) (fun _ U_ o_ U2_ => ∃ v_ L_, o_ = .returned v_ ∧ Q_own_locInit Z xa h0 n0 v_ U2_.heap L_ ∧ FrameEnd U_ o_ U2_ L_ ({ frames := 1, cells := 0, slots := 0, locals := 12 } : Room).cells ({ frames := 1, cells := 0, slots := 0, locals := 12 } : Room).slots) := by
  refine MetFree.of_bodySF (plainFor_of_name own_pn_com_example_breach_or_proof_breachorproof_Location) hisR ?_
  intro p e s m args below meth c s₁ Bd hml0 hP hK
  obtain ⟨rfl, hZ, hh⟩ := hP
  have hx := Bd.exec
  have hby := Bd.bytes
  have hml : c.maxLocals = 3 := hml0
  have hown : s.vm.findClass "com/example/breach_or_proof/breachorproof/Location" = some m.cls := findClass_of_methodNamed Bd.named
  have hnm := (name_of_methodNamed Bd.named Bd.method).1
  have hlk : meth.locks = false := Bd.notSynchronized
  have hret := Bd.returns
  have X0 : Stand p l e ({ frames := 1, cells := 0, slots := 0, locals := 12 } : Room) s m #[(.ref xa), (.int (1 : Int32)), (.int (1 : Int32))] below meth c s₁ [] 0 0 := Stand.of_body Bd
  have e0 : s₁.heap = h0 := by rw [← hh, Bd.state]; rfl
  have N0 := Fr.nil n0
  have z0 : Z.heap.size = n0 := O0.1
  have z1 : n0 ≤ h0.size := z0 ▸ O0.2.1
  have K0 : Keep h0 h0 [xa] := Keep.refl _ _
  show own_Goes p e below (s₁.setTop (entryFrame m #[(.ref xa), (.int (1 : Int32)), (.int (1 : Int32))] 3)) (own_PostN s (Q_own_locInit Z xa h0 n0) ({ frames := 1, cells := 0, slots := 0, locals := 12 } : Room).cells ({ frames := 1, cells := 0, slots := 0, locals := 12 } : Room).slots)
  refine own_cast (own_ef_own_locInit m xa) ?_
  show own_Goes p e below (s₁.setTop (mkF m 0 #[.val (.ref xa), .val (.int (1 : Int32)), .val (.int (1 : Int32))] [])) _
  have ltP0 : xa < h0.size := P0.lt
  refine own_go (fun t_ k_ => XS.aloadN X0.here hx rfl (hb hby own_d1_0) rfl rfl k_) ?_
  show own_Goes p e below (s₁.setTop (mkF m 1 #[.val (.ref xa), .val (.int (1 : Int32)), .val (.int (1 : Int32))] [(.ref xa)])) _
  obtain ⟨T1, X1, e1, st1⟩ := initO X0 hx hZ hown (hw _ (List.mem_of_getElem? (i := 6) rfl)) (hw _ (List.mem_of_getElem? (i := 7) rfl)) (hw _ (List.mem_of_getElem? (i := 8) rfl)) e0 (g := (mkF m 1 #[.val (.ref xa), .val (.int (1 : Int32)), .val (.int (1 : Int32))] [(.ref xa)])) rfl (by rw [hml]; rfl) rfl (hb hby own_d1_1) (by decide) (W := 0) (by show 2 * 0 + _ ≤ _; exact Nat.le_of_eq rfl) (by decide)
  refine own_go st1 ?_
  show own_Goes p e below (T1.setTop (mkF m 4 #[.val (.ref xa), .val (.int (1 : Int32)), .val (.int (1 : Int32))] [])) _
  refine own_go (fun t_ k_ => XS.iloadN X1.here hx rfl (hb hby own_d1_4) rfl k_) ?_
  show own_Goes p e below (T1.setTop (mkF m 5 #[.val (.ref xa), .val (.int (1 : Int32)), .val (.int (1 : Int32))] [(.int (1 : Int32))])) _
  refine own_go (fun t_ k_ => XS.iconst X1.here hx rfl (hb hby own_d1_5) k_) ?_
  show own_Goes p e below (T1.setTop (mkF m 6 #[.val (.ref xa), .val (.int (1 : Int32)), .val (.int (1 : Int32))] [(.int (1 : Int32)), (.int (1 : Int32))])) _
  refine own_go (fun t_ k_ => XS.icmpNo X1.here hx rfl (hb hby own_d1_6) rfl (flt (show ¬ ((1 : Int32) < (1 : Int32)) from by decide)).1 k_) ?_
  show own_Goes p e below (T1.setTop (mkF m 9 #[.val (.ref xa), .val (.int (1 : Int32)), .val (.int (1 : Int32))] [])) _
  refine own_go (fun t_ k_ => XS.iloadN X1.here hx rfl (hb hby own_d1_9) rfl k_) ?_
  show own_Goes p e below (T1.setTop (mkF m 10 #[.val (.ref xa), .val (.int (1 : Int32)), .val (.int (1 : Int32))] [(.int (1 : Int32))])) _
  refine own_go (fun t_ k_ => XS.iconst X1.here hx rfl (hb hby own_d1_10) k_) ?_
  show own_Goes p e below (T1.setTop (mkF m 11 #[.val (.ref xa), .val (.int (1 : Int32)), .val (.int (1 : Int32))] [(.int (1 : Int32)), (.int (1 : Int32))])) _
  refine own_go (fun t_ k_ => XS.icmpYes X1.here hx rfl (pc0 := 11) (pc' := 29) rfl (hb hby own_d1_11) rfl (flt (show ¬ ((1 : Int32) < (1 : Int32)) from by decide)).2.1 (by decide) (by decide) k_) ?_
  show own_Goes p e below (T1.setTop (mkF m 29 #[.val (.ref xa), .val (.int (1 : Int32)), .val (.int (1 : Int32))] [])) _
  refine own_go (fun t_ k_ => XS.aloadN X1.here hx rfl (hb hby own_d1_29) rfl rfl k_) ?_
  show own_Goes p e below (T1.setTop (mkF m 30 #[.val (.ref xa), .val (.int (1 : Int32)), .val (.int (1 : Int32))] [(.ref xa)])) _
  refine own_go (fun t_ k_ => XS.iloadN X1.here hx rfl (hb hby own_d1_30) rfl k_) ?_
  show own_Goes p e below (T1.setTop (mkF m 31 #[.val (.ref xa), .val (.int (1 : Int32)), .val (.int (1 : Int32))] [(.int (1 : Int32)), (.ref xa)])) _
  obtain ⟨T2, h2, X2, e2, W2, st2⟩ := putF X1 hx hZ hown (host := "") (Or.inl (hw _ (List.mem_of_getElem? (i := 9) rfl))) Via.refl e1 P1 P0 (Or.inr ⟨(hw _ (List.mem_of_getElem? (i := 10) rfl)), rfl, hnm⟩) (hw _ (List.mem_of_getElem? (i := 1) rfl)) (ty := .int) (by decide) rfl rfl (g := (mkF m 31 #[.val (.ref xa), .val (.int (1 : Int32)), .val (.int (1 : Int32))] [(.int (1 : Int32)), (.ref xa)])) rfl rfl (hb hby own_d1_31)
  refine own_go st2 ?_
  have O3 := O0.wr W2 (show n0 ≤ xa by omega)
  have sz4 : h2.size = h0.size := Wr.size W2
  have K5 := K0.wr W2 (Or.inl (List.mem_of_getElem? (i := 0) rfl))
  have N2 := Fr.snoc X2 N0 (show n0 ≤ xa by omega)
  have Fw2 := P1.same W2
  show own_Goes p e below (T2.setTop (mkF m 34 #[.val (.ref xa), .val (.int (1 : Int32)), .val (.int (1 : Int32))] [])) _
  refine own_go (fun t_ k_ => XS.aloadN X2.here hx rfl (hb hby own_d1_34) rfl rfl k_) ?_
  show own_Goes p e below (T2.setTop (mkF m 35 #[.val (.ref xa), .val (.int (1 : Int32)), .val (.int (1 : Int32))] [(.ref xa)])) _
  refine own_go (fun t_ k_ => XS.iloadN X2.here hx rfl (hb hby own_d1_35) rfl k_) ?_
  show own_Goes p e below (T2.setTop (mkF m 36 #[.val (.ref xa), .val (.int (1 : Int32)), .val (.int (1 : Int32))] [(.int (1 : Int32)), (.ref xa)])) _
  have f6 := (P2.other W2 (Or.inr (slot_ne (Or.inr (hw _ (List.mem_of_getElem? (i := 12) rfl))) (Or.inr (hw _ (List.mem_of_getElem? (i := 10) rfl))) (by decide) (t := .int) (t' := .int) (by decide) (by decide))))
  have f7 := (P0.wr W2)
  obtain ⟨T8, h8, X8, e8, W8, st8⟩ := putF X2 hx hZ hown (host := "") (Or.inl (hw _ (List.mem_of_getElem? (i := 11) rfl))) Via.refl e2 f6 f7 (Or.inr ⟨(hw _ (List.mem_of_getElem? (i := 12) rfl)), rfl, hnm⟩) (hw _ (List.mem_of_getElem? (i := 1) rfl)) (ty := .int) (by decide) rfl rfl (g := (mkF m 36 #[.val (.ref xa), .val (.int (1 : Int32)), .val (.int (1 : Int32))] [(.int (1 : Int32)), (.ref xa)])) rfl rfl (hb hby own_d1_36)
  refine own_go st8 ?_
  have O9 := O3.wr W8 (show n0 ≤ xa by omega)
  have sz10 : h8.size = h2.size := Wr.size W8
  have K11 := K5.wr W8 (Or.inl (List.mem_of_getElem? (i := 0) rfl))
  have N8 := Fr.snoc X8 N2 (show n0 ≤ xa by omega)
  have Fw8 := f6.same W8
  show own_Goes p e below (T8.setTop (mkF m 39 #[.val (.ref xa), .val (.int (1 : Int32)), .val (.int (1 : Int32))] [])) _
  refine own_endN X8 (v := none) (fun _ => rfl) hlk (by decide) (by decide) ?_ (fun fs hr => X8.returnOut hx hret (hb hby own_d1_39) hr)
  show Q_own_locInit Z xa h0 n0 _ T8.heap _
  rw [e8]
  exact ⟨N8, K11, rfl⟩
theorem own_d4_0 : decode prog_26_method_1_code 0 = .ok (.aload_n 0, 1) := by decide +kernel
theorem own_d4_1 : decode prog_26_method_1_code 1 = .ok (.invokespecial 1, 3) := by decide +kernel
theorem own_d4_4 : decode prog_26_method_1_code 4 = .ok (.aload_n 0, 1) := by decide +kernel
theorem own_d4_5 : decode prog_26_method_1_code 5 = .ok (.aload_n 1, 1) := by decide +kernel
theorem own_d4_6 : decode prog_26_method_1_code 6 = .ok (.ldc 7, 2) := by decide +kernel
theorem own_d4_8 : decode prog_26_method_1_code 8 = .ok (.invokestatic 9, 3) := by decide +kernel
theorem own_pd_0 : parseMethodDescriptor "(Ljava/lang/Object;Ljava/lang/String;)Ljava/lang/Object;" = some ⟨[(.object "java/lang/Object"), (.object "java/lang/String")], some (.object "java/lang/Object")⟩ := by decide +kernel
abbrev own_m1 : MethodName := ⟨"java/util/Objects", "requireNonNull", "(Ljava/lang/Object;Ljava/lang/String;)Ljava/lang/Object;"⟩
theorem own_d4_11 : decode prog_26_method_1_code 11 = .ok (.checkcast 15, 3) := by decide +kernel
theorem own_d4_14 : decode prog_26_method_1_code 14 = .ok (.putfield 17, 3) := by decide +kernel
theorem own_d4_17 : decode prog_26_method_1_code 17 = .ok (.return_, 1) := by decide +kernel
theorem own_pn_com_example_breach_or_proof_breachorproof_Process : plainName "com/example/breach_or_proof/breachorproof/Process" = true := by first | (simp [plainName, overriddenIn]; done) | decide +kernel
theorem own_ef_own_prInit (m : MethodId) (xa : Addr) (xl : Addr) : entryFrame m #[(.ref xa), (.ref xl)] 2 = mkF m 0 #[.val (.ref xa), .val (.ref xl)] [] := by first | (simp [entryFrame, mkF, argsToLocals, Value.category]; done) | rfl
def Q_own_prInit (Z : State) (xa : Addr) (xl : Addr) (h0 : Heap) (n0 : Nat) (v : Option Value) (h : Heap) (L : List Loc) : Prop := Fr n0 L ∧ Keep h0 h [xa] ∧ v = none
set_option maxRecDepth 65536 in
set_option maxHeartbeats 40000000 in
theorem own_prInit (l : Launch) (Z : State) (a0 : Array Value) (hw : ∀ d ∈ tables_1, d.before a0 Z = true) (ws : List Jvm.Cond) (xa : Addr) (xl : Addr) (h0 : Heap) (n0 : Nat) (O0 : Old Z n0 h0) (P0 : Exa Z h0 xa "com/example/breach_or_proof/breachorproof/Process$Nil") (P1 : Fld Z h0 xa "com/example/breach_or_proof/breachorproof/Process" "location" "Lcom/example/breach_or_proof/breachorproof/Location;" .null) (P2 : Exa Z h0 xl "com/example/breach_or_proof/breachorproof/Location") (P3 : n0 ≤ xa) :
    MetFree l (⟨"com/example/breach_or_proof/breachorproof/Process", "<init>", "(Lcom/example/breach_or_proof/breachorproof/Location;)V"⟩ : MethodName) (head1 (Jvm.Cond.code (⟨"com/example/breach_or_proof/breachorproof/Process", "<init>", "(Lcom/example/breach_or_proof/breachorproof/Location;)V"⟩ : MethodName) prog_26_method_1_code 2 none :: ws) ({ frames := 1, cells := 2, slots := 36, locals := 14 } : Room)) (fun as_ U_ => as_ = #[(.ref xa), (.ref xl)] ∧ Z.Warmed39 U_.vm ∧ U_.heap = h0) (fun _ _ _ _ _ => True) (fun _ U_ o_ U2_ => ∃ v_ L_, o_ = .returned v_ ∧ Q_own_prInit Z xa xl h0 n0 v_ U2_.heap L_ ∧ ReturnedEndW U_ o_ U2_ L_ ({ frames := 1, cells := 2, slots := 36, locals := 14 } : Room).cells ({ frames := 1, cells := 2, slots := 36, locals := 14 } : Room).slots) := by
  refine MetFree.of_bodySF (plainFor_of_name own_pn_com_example_breach_or_proof_breachorproof_Process) hisR ?_
  intro p e s m args below meth c s₁ Bd hml0 hP hK
  obtain ⟨rfl, hZ, hh⟩ := hP
  have hx := Bd.exec
  have hby := Bd.bytes
  have hml : c.maxLocals = 2 := hml0
  have hown : s.vm.findClass "com/example/breach_or_proof/breachorproof/Process" = some m.cls := findClass_of_methodNamed Bd.named
  have hnm := (name_of_methodNamed Bd.named Bd.method).1
  have hlk : meth.locks = false := Bd.notSynchronized
  have hret := Bd.returns
  have X0 : Stand p l e ({ frames := 1, cells := 2, slots := 36, locals := 14 } : Room) s m #[(.ref xa), (.ref xl)] below meth c s₁ [] 0 0 := Stand.of_body Bd
  have e0 : s₁.heap = h0 := by rw [← hh, Bd.state]; rfl
  have N0 := Fr.nil n0
  have z0 : Z.heap.size = n0 := O0.1
  have z1 : n0 ≤ h0.size := z0 ▸ O0.2.1
  have K0 : Keep h0 h0 [xa] := Keep.refl _ _
  have hS0 : s.Since s.vm 0 := (State.WarmedH.refl s).since 0
  have hk0 : 0 ≤ h0.size := Nat.zero_le _
  replace X0 : Stand p l e ({ frames := 1, cells := 2, slots := 36, locals := 14 } : Room) (s.setVm s.vm) m #[(.ref xa), (.ref xl)] below meth c s₁ [] 0 0 := X0
  show own_Goes p e below (s₁.setTop (entryFrame m #[(.ref xa), (.ref xl)] 2)) (own_PostW s (Q_own_prInit Z xa xl h0 n0) ({ frames := 1, cells := 2, slots := 36, locals := 14 } : Room).cells ({ frames := 1, cells := 2, slots := 36, locals := 14 } : Room).slots)
  refine own_cast (own_ef_own_prInit m xa xl) ?_
  show own_Goes p e below (s₁.setTop (mkF m 0 #[.val (.ref xa), .val (.ref xl)] [])) _
  have ltP0 : xa < h0.size := P0.lt
  have ltP2 : xl < h0.size := P2.lt
  refine own_go (fun t_ k_ => XS.aloadN X0.here hx rfl (hb hby own_d4_0) rfl rfl k_) ?_
  show own_Goes p e below (s₁.setTop (mkF m 1 #[.val (.ref xa), .val (.ref xl)] [(.ref xa)])) _
  obtain ⟨T1, X1, e1, st1⟩ := initO X0 hx hZ hown (hw _ (List.mem_of_getElem? (i := 24) rfl)) (hw _ (List.mem_of_getElem? (i := 7) rfl)) (hw _ (List.mem_of_getElem? (i := 8) rfl)) e0 (g := (mkF m 1 #[.val (.ref xa), .val (.ref xl)] [(.ref xa)])) rfl (by rw [hml]; rfl) rfl (hb hby own_d4_1) (by decide) (W := 0) (by show 2 * 0 + _ ≤ _; exact Nat.le_of_eq rfl) (by decide)
  refine own_go st1 ?_
  show own_Goes p e below (T1.setTop (mkF m 4 #[.val (.ref xa), .val (.ref xl)] [])) _
  refine own_go (fun t_ k_ => XS.aloadN X1.here hx rfl (hb hby own_d4_4) rfl rfl k_) ?_
  show own_Goes p e below (T1.setTop (mkF m 5 #[.val (.ref xa), .val (.ref xl)] [(.ref xa)])) _
  refine own_go (fun t_ k_ => XS.aloadN X1.here hx rfl (hb hby own_d4_5) rfl rfl k_) ?_
  show own_Goes p e below (T1.setTop (mkF m 6 #[.val (.ref xa), .val (.ref xl)] [(.ref xl), (.ref xa)])) _
  obtain ⟨a2, T2, h2, k2, X2, e2, E2, hS2, hk2, hZ2, hown2, st2⟩ := ldcS (s := s) (vm0 := s.vm) X1 hx hZ hown (hw _ (List.mem_of_getElem? (i := 25) rfl)) (own_strs hw) e1 hS0 hk0 (g := (mkF m 6 #[.val (.ref xa), .val (.ref xl)] [(.ref xl), (.ref xa)])) rfl (hb hby own_d4_6) (n := 32) (by decide) (by decide) (by decide) (by decide)
  refine own_go st2 ?_
  have O3 := O0.ext E2
  have sz4 : h0.size ≤ h2.size := E2.1
  have K5 := K0.ext E2
  show own_Goes p e below (T2.setTop (mkF m 8 #[.val (.ref xa), .val (.ref xl)] [(.ref a2), (.ref xl), (.ref xa)])) _
  obtain ⟨_, _, ⟨T6, L6, k6, n6⟩, -, X6, ⟨Lc6, hQ6, l6, y6, z6⟩, st6⟩ := Jvm.LawKit.callS X2 hx (y := own_m1) hown2 (mvT hZ2 (hw _ (List.mem_of_getElem? (i := 33) rfl))) (mvT hZ2 (hw _ (List.mem_of_getElem? (i := 34) rfl))) (mvT hZ2 (hw _ (List.mem_of_getElem? (i := 35) rfl))) (mvT hZ2 (hw _ (List.mem_of_getElem? (i := 36) rfl))) (by decide) (backOf (W := 1) (own_rnn2 l Z a0 hw [] xl a2 h2 n0 O3) hZ2 (hw _ (List.mem_of_getElem? (i := 36) rfl)) (hw _ (List.mem_of_getElem? (i := 35) rfl)) (by decide) (by decide)) (g := (mkF m 8 #[.val (.ref xa), .val (.ref xl)] [(.ref a2), (.ref xl), (.ref xa)])) rfl (by rw [hml]; rfl) (argsL := [(.ref xl), (.ref a2)]) (rest := [(.ref xa)]) (lenOf own_pd_0 rfl) rfl (by show 2 * 0 + _ ≤ _; exact Nat.le_of_eq rfl) (hb hby own_d4_8) (fun _ _ => ⟨rfl, e2, (by decide : 2 + 0 ≤ _), (by decide : 36 + 0 ≤ _)⟩)
  dsimp only [Pt.U, Pt.locs, Pt.cells, Pt.slots] at X6 l6 y6 z6 st6 hQ6
  subst l6 y6 z6
  obtain ⟨Nc6, e6, rfl⟩ := hQ6
  have N6 := Fr.app N0 Nc6
  refine own_go st6 ?_
  show own_Goes p e below (T6.setTop (mkF m 11 #[.val (.ref xa), .val (.ref xl)] [(.ref xl), (.ref xa)])) _
  have f7 := (P2.ext E2)
  obtain ⟨T8, X8, e8, st8⟩ := castY X6 hx hZ2 hown2 (hw _ (List.mem_of_getElem? (i := 37) rfl)) e6 (Ins.self f7) (g := (mkF m 11 #[.val (.ref xa), .val (.ref xl)] [(.ref xl), (.ref xa)])) rfl rfl (hb hby own_d4_11)
  refine own_go st8 ?_
  show own_Goes p e below (T8.setTop (mkF m 14 #[.val (.ref xa), .val (.ref xl)] [(.ref xl), (.ref xa)])) _
  have f9 := (P1.ext E2)
  have f10 := (P0.ext E2)
  obtain ⟨T11, h11, X11, e11, W11, st11⟩ := putF X8 hx hZ2 hown2 (host := "") (Or.inl (hw _ (List.mem_of_getElem? (i := 39) rfl))) Via.refl e8 f9 f10 (Or.inr ⟨(hw _ (List.mem_of_getElem? (i := 40) rfl)), rfl, hnm⟩) (hw _ (List.mem_of_getElem? (i := 14) rfl)) (ty := (.object "com/example/breach_or_proof/breachorproof/Location")) (by decide) rfl rfl (g := (mkF m 14 #[.val (.ref xa), .val (.ref xl)] [(.ref xl), (.ref xa)])) rfl rfl (hb hby own_d4_14)
  refine own_go st11 ?_
  have O12 := O3.wr W11 (show n0 ≤ xa by omega)
  have sz13 : h11.size = h2.size := Wr.size W11
  have hk14 := Nat.le_trans hk2 (Nat.le_of_eq (Wr.size W11).symm)
  have K15 := K5.wr W11 (Or.inl (List.mem_of_getElem? (i := 0) rfl))
  have N11 := Fr.snoc X11 N6 (show n0 ≤ xa by omega)
  have Fw11 := f9.same W11
  show own_Goes p e below (T11.setTop (mkF m 17 #[.val (.ref xa), .val (.ref xl)] [])) _
  refine own_endW X11 hS2 (show _ ≤ T11.heap.size by rw [e11]; exact hk14) (v := none) (fun _ => rfl) hlk (by decide) (by decide) ?_ (fun fs hr => X11.returnOut hx hret (hb hby own_d4_17) hr)
  show Q_own_prInit Z xa xl h0 n0 _ T11.heap _
  rw [e11]
  exact ⟨N11, K15, rfl⟩
theorem own_d3_0 : decode prog_34_method_1_code 0 = .ok (.aload_n 0, 1) := by decide +kernel
theorem own_d3_1 : decode prog_34_method_1_code 1 = .ok (.aload_n 1, 1) := by decide +kernel
theorem own_d3_2 : decode prog_34_method_1_code 2 = .ok (.invokespecial 1, 3) := by decide +kernel
theorem own_pd_2 : parseMethodDescriptor "(Lcom/example/breach_or_proof/breachorproof/Location;)V" = some ⟨[(.object "com/example/breach_or_proof/breachorproof/Location")], none⟩ := by decide +kernel
abbrev own_m3 : MethodName := ⟨"com/example/breach_or_proof/breachorproof/Process", "<init>", "(Lcom/example/breach_or_proof/breachorproof/Location;)V"⟩
theorem own_d3_5 : decode prog_34_method_1_code 5 = .ok (.return_, 1) := by decide +kernel
theorem own_pn_com_example_breach_or_proof_breachorproof_Process_Nil : plainName "com/example/breach_or_proof/breachorproof/Process$Nil" = true := by first | (simp [plainName, overriddenIn]; done) | decide +kernel
theorem own_ef_own_nilInit (m : MethodId) (xa : Addr) (xl : Addr) : entryFrame m #[(.ref xa), (.ref xl)] 2 = mkF m 0 #[.val (.ref xa), .val (.ref xl)] [] := by first | (simp [entryFrame, mkF, argsToLocals, Value.category]; done) | rfl
def Q_own_nilInit (Z : State) (xa : Addr) (xl : Addr) (h0 : Heap) (n0 : Nat) (v : Option Value) (h : Heap) (L : List Loc) : Prop := Fr n0 L ∧ Keep h0 h [xa] ∧ v = none
set_option maxRecDepth 65536 in
set_option maxHeartbeats 40000000 in
theorem own_nilInit (l : Launch) (Z : State) (a0 : Array Value) (hw : ∀ d ∈ tables_1, d.before a0 Z = true) (ws : List Jvm.Cond) (xa : Addr) (xl : Addr) (h0 : Heap) (n0 : Nat) (O0 : Old Z n0 h0) (P0 : Exa Z h0 xa "com/example/breach_or_proof/breachorproof/Process$Nil") (P1 : Fld Z h0 xa "com/example/breach_or_proof/breachorproof/Process" "location" "Lcom/example/breach_or_proof/breachorproof/Location;" .null) (P2 : Exa Z h0 xl "com/example/breach_or_proof/breachorproof/Location") (P3 : n0 ≤ xa) :
    MetFree l (⟨"com/example/breach_or_proof/breachorproof/Process$Nil", "<init>", "(Lcom/example/breach_or_proof/breachorproof/Location;)V"⟩ : MethodName) (head1 (Jvm.Cond.code (⟨"com/example/breach_or_proof/breachorproof/Process$Nil", "<init>", "(Lcom/example/breach_or_proof/breachorproof/Location;)V"⟩ : MethodName) prog_34_method_1_code 2 none :: ws) ({ frames := 2, cells := 2, slots := 36, locals := 27 } : Room)) (fun as_ U_ => as_ = #[(.ref xa), (.ref xl)] ∧ Z.Warmed39 U_.vm ∧ U_.heap = h0) (fun _ _ _ _ _ => True) (fun _ U_ o_ U2_ => ∃ v_ L_, o_ = .returned v_ ∧ Q_own_nilInit Z xa xl h0 n0 v_ U2_.heap L_ ∧ ReturnedEndW U_ o_ U2_ L_ ({ frames := 2, cells := 2, slots := 36, locals := 27 } : Room).cells ({ frames := 2, cells := 2, slots := 36, locals := 27 } : Room).slots) := by
  refine MetFree.of_bodySF (plainFor_of_name own_pn_com_example_breach_or_proof_breachorproof_Process_Nil) hisR ?_
  intro p e s m args below meth c s₁ Bd hml0 hP hK
  obtain ⟨rfl, hZ, hh⟩ := hP
  have hx := Bd.exec
  have hby := Bd.bytes
  have hml : c.maxLocals = 2 := hml0
  have hown : s.vm.findClass "com/example/breach_or_proof/breachorproof/Process$Nil" = some m.cls := findClass_of_methodNamed Bd.named
  have hnm := (name_of_methodNamed Bd.named Bd.method).1
  have hlk : meth.locks = false := Bd.notSynchronized
  have hret := Bd.returns
  have X0 : Stand p l e ({ frames := 2, cells := 2, slots := 36, locals := 27 } : Room) s m #[(.ref xa), (.ref xl)] below meth c s₁ [] 0 0 := Stand.of_body Bd
  have e0 : s₁.heap = h0 := by rw [← hh, Bd.state]; rfl
  have N0 := Fr.nil n0
  have z0 : Z.heap.size = n0 := O0.1
  have z1 : n0 ≤ h0.size := z0 ▸ O0.2.1
  have K0 : Keep h0 h0 [xa] := Keep.refl _ _
  have hS0 : s.Since s.vm 0 := (State.WarmedH.refl s).since 0
  have hk0 : 0 ≤ h0.size := Nat.zero_le _
  replace X0 : Stand p l e ({ frames := 2, cells := 2, slots := 36, locals := 27 } : Room) (s.setVm s.vm) m #[(.ref xa), (.ref xl)] below meth c s₁ [] 0 0 := X0
  show own_Goes p e below (s₁.setTop (entryFrame m #[(.ref xa), (.ref xl)] 2)) (own_PostW s (Q_own_nilInit Z xa xl h0 n0) ({ frames := 2, cells := 2, slots := 36, locals := 27 } : Room).cells ({ frames := 2, cells := 2, slots := 36, locals := 27 } : Room).slots)
  refine own_cast (own_ef_own_nilInit m xa xl) ?_
  show own_Goes p e below (s₁.setTop (mkF m 0 #[.val (.ref xa), .val (.ref xl)] [])) _
  have ltP0 : xa < h0.size := P0.lt
  have ltP2 : xl < h0.size := P2.lt
  refine own_go (fun t_ k_ => XS.aloadN X0.here hx rfl (hb hby own_d3_0) rfl rfl k_) ?_
  show own_Goes p e below (s₁.setTop (mkF m 1 #[.val (.ref xa), .val (.ref xl)] [(.ref xa)])) _
  refine own_go (fun t_ k_ => XS.aloadN X0.here hx rfl (hb hby own_d3_1) rfl rfl k_) ?_
  show own_Goes p e below (s₁.setTop (mkF m 2 #[.val (.ref xa), .val (.ref xl)] [(.ref xl), (.ref xa)])) _
  obtain ⟨_, _, ⟨T1, L1, k1, n1⟩, -, X1, hS1, gr1, ⟨Lc1, hQ1, l1, y1, z1⟩, st1⟩ := X0.specialBackS hx (y := own_m3) rfl hown (mvT hZ (hw _ (List.mem_of_getElem? (i := 19) rfl))) (mvT hZ (hw _ (List.mem_of_getElem? (i := 20) rfl))) (mvT hZ (hw _ (List.mem_of_getElem? (i := 23) rfl))) (by decide) (backOfS (W := 0) (own_prInit l Z a0 hw [] xa xl h0 n0 O0 P0 P1 P2 (show n0 ≤ xa by first | assumption | omega | decide)) hZ (hw _ (List.mem_of_getElem? (i := 23) rfl)) (hw _ (List.mem_of_getElem? (i := 22) rfl)) (by decide) (by decide)) (g := (mkF m 2 #[.val (.ref xa), .val (.ref xl)] [(.ref xl), (.ref xa)])) rfl (by rw [hml]; rfl) (Steps.refl _) (a := xa) (argsL := [(.ref xl)]) (rest := []) (lenOf own_pd_2 rfl) rfl (by show 2 * 0 + _ ≤ _; exact Nat.le_of_eq rfl) (hb hby own_d3_2) (fun _ _ => ⟨rfl, e0, (by decide : 0 + 2 ≤ _), (by decide : 0 + 36 ≤ _)⟩)
  dsimp only [Pt.U, Pt.locs, Pt.cells, Pt.slots] at X1 l1 y1 z1 st1 hQ1 hS1 gr1
  subst l1 y1 z1
  obtain ⟨h1, e1⟩ : ∃ z, T1.heap = z := ⟨_, rfl⟩
  rw [e1] at hQ1 hS1 gr1
  obtain ⟨Nc1, Kc1, rfl⟩ := hQ1
  obtain ⟨X1, hS1, hZ1, hown1⟩ := rebS (own := "com/example/breach_or_proof/breachorproof/Process$Nil") hS0 (show _ ≤ s₁.heap.size by rw [e0]; exact hk0) X1 hS1 gr1 hZ hown
  have hk1 : h1.size ≤ h1.size := Nat.le_refl _
  have N1 := Fr.app N0 Nc1
  have O2 := O0.keep Kc1 (allS (show n0 ≤ xa by omega) all0)
  have sz3 : h0.size ≤ h1.size := Kc1.1
  have K4 := Keep.trans K0 Kc1 (allS (Or.inl (List.mem_of_getElem? (i := 0) rfl)) all0)
  refine own_goS st1 ?_
  show own_Goes p e below (T1.setTop (mkF m 5 #[.val (.ref xa), .val (.ref xl)] [])) _
  refine own_endW X1 hS1 (show _ ≤ T1.heap.size by rw [e1]; exact hk1) (v := none) (fun _ => rfl) hlk (by decide) (by decide) ?_ (fun fs hr => X1.returnOut hx hret (hb hby own_d3_5) hr)
  show Q_own_nilInit Z xa xl h0 n0 _ T1.heap _
  rw [e1]
  exact ⟨N1, K4, rfl⟩
theorem own_d6_0 : decode method_2_code 0 = .ok (.iload_n 0, 1) := by decide +kernel
theorem own_d6_1 : decode method_2_code 1 = .ok (.ldc 7, 2) := by decide +kernel
theorem own_d6_3 : decode method_2_code 3 = .ok (.iand, 1) := by decide +kernel
theorem own_d6_4 : decode method_2_code 4 = .ok (.iconst 5, 1) := by decide +kernel
theorem own_d6_5 : decode method_2_code 5 = .ok (.irem, 1) := by decide +kernel
theorem own_d6_6 : decode method_2_code 6 = .ok (.ireturn, 1) := by decide +kernel
theorem own_pn_com_example_breach_or_proof_breachorproof_analysis_PathStepEqualsPinLaw : plainName "com/example/breach_or_proof/breachorproof/analysis/PathStepEqualsPinLaw" = true := by first | (simp [plainName, overriddenIn]; done) | decide +kernel
theorem own_ef_own_idx (m : MethodId) (xi : Int32) : entryFrame m #[(.int xi)] 1 = mkF m 0 #[.val (.int xi)] [] := by first | (simp [entryFrame, mkF, argsToLocals, Value.category]; done) | rfl
def Q_own_idx (Z : State) (xi : Int32) (h0 : Heap) (n0 : Nat) (v : Option Value) (h : Heap) (L : List Loc) : Prop := Fr n0 L ∧ h = h0 ∧ v = some (.int ((xi &&& (2147483647 : Int32)) % (5 : Int32)))
set_option maxRecDepth 65536 in
set_option maxHeartbeats 40000000 in
theorem own_idx (l : Launch) (Z : State) (a0 : Array Value) (hw : ∀ d ∈ tables_1, d.before a0 Z = true) (ws : List Jvm.Cond) (xi : Int32) (h0 : Heap) (n0 : Nat) (O0 : Old Z n0 h0) :
    MetFree l (⟨"com/example/breach_or_proof/breachorproof/analysis/PathStepEqualsPinLaw", "idx", "(I)I"⟩ : MethodName) (head1 (Jvm.Cond.code (⟨"com/example/breach_or_proof/breachorproof/analysis/PathStepEqualsPinLaw", "idx", "(I)I"⟩ : MethodName) method_2_code 1 (some .int) :: ws) ({ frames := 0, cells := 0, slots := 0, locals := 0 } : Room)) (fun as_ U_ => as_ = #[(.int xi)] ∧ Z.Warmed39 U_.vm ∧ U_.heap = h0) (fun _ _ _ _ _ => True) (fun _ U_ o_ U2_ => ∃ v_ L_, o_ = .returned v_ ∧ Q_own_idx Z xi h0 n0 v_ U2_.heap L_ ∧ FrameEnd U_ o_ U2_ L_ ({ frames := 0, cells := 0, slots := 0, locals := 0 } : Room).cells ({ frames := 0, cells := 0, slots := 0, locals := 0 } : Room).slots) := by
  refine MetFree.of_bodySF (plainFor_of_name own_pn_com_example_breach_or_proof_breachorproof_analysis_PathStepEqualsPinLaw) hisR ?_
  intro p e s m args below meth c s₁ Bd hml0 hP hK
  obtain ⟨rfl, hZ, hh⟩ := hP
  have hx := Bd.exec
  have hby := Bd.bytes
  have hml : c.maxLocals = 1 := hml0
  have hown : s.vm.findClass "com/example/breach_or_proof/breachorproof/analysis/PathStepEqualsPinLaw" = some m.cls := findClass_of_methodNamed Bd.named
  have hnm := (name_of_methodNamed Bd.named Bd.method).1
  have hlk : meth.locks = false := Bd.notSynchronized
  have hret := Bd.returns
  have X0 : Stand p l e ({ frames := 0, cells := 0, slots := 0, locals := 0 } : Room) s m #[(.int xi)] below meth c s₁ [] 0 0 := Stand.of_body Bd
  have e0 : s₁.heap = h0 := by rw [← hh, Bd.state]; rfl
  have N0 := Fr.nil n0
  have z0 : Z.heap.size = n0 := O0.1
  have z1 : n0 ≤ h0.size := z0 ▸ O0.2.1
  show own_Goes p e below (s₁.setTop (entryFrame m #[(.int xi)] 1)) (own_PostN s (Q_own_idx Z xi h0 n0) ({ frames := 0, cells := 0, slots := 0, locals := 0 } : Room).cells ({ frames := 0, cells := 0, slots := 0, locals := 0 } : Room).slots)
  refine own_cast (own_ef_own_idx m xi) ?_
  show own_Goes p e below (s₁.setTop (mkF m 0 #[.val (.int xi)] [])) _
  refine own_go (fun t_ k_ => XS.iloadN X0.here hx rfl (hb hby own_d6_0) rfl k_) ?_
  show own_Goes p e below (s₁.setTop (mkF m 1 #[.val (.int xi)] [(.int xi)])) _
  refine own_go (fun t_ k_ => Jvm.Stand.ldcI X0 hx hown (mv hZ (hw _ (List.mem_of_getElem? (i := 45) rfl))) rfl (hb hby own_d6_1) k_) ?_
  show own_Goes p e below (s₁.setTop (mkF m 3 #[.val (.int xi)] [(.int (2147483647 : Int32)), (.int xi)])) _
  refine own_go (fun t_ k_ => XS.iand X0.here hx rfl (hb hby own_d6_3) rfl k_) ?_
  show own_Goes p e below (s₁.setTop (mkF m 4 #[.val (.int xi)] [(.int (xi &&& (2147483647 : Int32)))])) _
  refine own_go (fun t_ k_ => XS.iconst X0.here hx rfl (hb hby own_d6_4) k_) ?_
  show own_Goes p e below (s₁.setTop (mkF m 5 #[.val (.int xi)] [(.int (5 : Int32)), (.int (xi &&& (2147483647 : Int32)))])) _
  refine own_go (fun t_ k_ => iremM X0 hx rfl (hb hby own_d6_5) rfl (by decide) k_) ?_
  show own_Goes p e below (s₁.setTop (mkF m 6 #[.val (.int xi)] [(.int ((xi &&& (2147483647 : Int32)) % (5 : Int32)))])) _
  refine own_endN X0 (v := (some (.int ((xi &&& (2147483647 : Int32)) % (5 : Int32))))) (fun h => by rw [hret] at h; cases h) hlk (by decide) (by decide) ?_ (fun fs hr => retOut X0 hx hret rfl (Or.inl ⟨rfl, Or.inl rfl, _, rfl⟩) (hb hby own_d6_6) hr)
  show Q_own_idx Z xi h0 n0 _ s₁.heap _
  rw [e0]
  exact ⟨N0, rfl, rfl⟩
theorem own_d7_0 : decode method_3_code 0 = .ok (.iload_n 0, 1) := by decide +kernel
theorem own_d7_1 : decode method_3_code 1 = .ok (.ifCond .ne 7, 3) := by decide +kernel
theorem own_d7_4 : decode method_3_code 4 = .ok (.getstatic 8, 3) := by decide +kernel
theorem own_d7_7 : decode method_3_code 7 = .ok (.areturn, 1) := by decide +kernel
theorem own_d7_8 : decode method_3_code 8 = .ok (.iload_n 0, 1) := by decide +kernel
theorem own_d7_9 : decode method_3_code 9 = .ok (.iconst 1, 1) := by decide +kernel
theorem own_d7_10 : decode method_3_code 10 = .ok (.if_icmp .ne 7, 3) := by decide +kernel
theorem own_d7_13 : decode method_3_code 13 = .ok (.getstatic 14, 3) := by decide +kernel
theorem own_d7_16 : decode method_3_code 16 = .ok (.areturn, 1) := by decide +kernel
theorem own_d7_17 : decode method_3_code 17 = .ok (.iload_n 0, 1) := by decide +kernel
theorem own_d7_18 : decode method_3_code 18 = .ok (.iconst 2, 1) := by decide +kernel
theorem own_d7_19 : decode method_3_code 19 = .ok (.if_icmp .ne 7, 3) := by decide +kernel
theorem own_d7_22 : decode method_3_code 22 = .ok (.getstatic 17, 3) := by decide +kernel
theorem own_d7_25 : decode method_3_code 25 = .ok (.areturn, 1) := by decide +kernel
theorem own_d7_26 : decode method_3_code 26 = .ok (.iload_n 0, 1) := by decide +kernel
theorem own_d7_27 : decode method_3_code 27 = .ok (.iconst 3, 1) := by decide +kernel
theorem own_d7_28 : decode method_3_code 28 = .ok (.if_icmp .ne 7, 3) := by decide +kernel
theorem own_d7_31 : decode method_3_code 31 = .ok (.getstatic 20, 3) := by decide +kernel
theorem own_d7_34 : decode method_3_code 34 = .ok (.areturn, 1) := by decide +kernel
theorem own_d7_35 : decode method_3_code 35 = .ok (.getstatic 23, 3) := by decide +kernel
theorem own_d7_38 : decode method_3_code 38 = .ok (.areturn, 1) := by decide +kernel
theorem own_ef_own_branch (m : MethodId) (xi : Int32) : entryFrame m #[(.int xi)] 1 = mkF m 0 #[.val (.int xi)] [] := by first | (simp [entryFrame, mkF, argsToLocals, Value.category]; done) | rfl
def Q_own_branch (Z : State) (xi : Int32) (gw0 : Addr) (gw1 : Addr) (gw2 : Addr) (gw3 : Addr) (gw4 : Addr) (h0 : Heap) (n0 : Nat) (v : Option Value) (h : Heap) (L : List Loc) : Prop := Fr n0 L ∧ h = h0 ∧ ∃ (r : Addr), v = some (.ref r) ∧ Exa Z h r "com/example/breach_or_proof/breachorproof/analysis/PathStep$Branch" ∧ r = own_br gw0 gw1 gw2 gw3 gw4 xi ∧ Fld Z Z.heap r "java/lang/Enum" "ordinal" "I" (.int xi)
set_option maxRecDepth 65536 in
set_option maxHeartbeats 40000000 in
theorem own_branch (l : Launch) (Z : State) (a0 : Array Value) (hw : ∀ d ∈ tables_1, d.before a0 Z = true) (ws : List Jvm.Cond) (xi : Int32) (h0 : Heap) (n0 : Nat) (O0 : Old Z n0 h0) (gw0 : Addr) (gw1 : Addr) (gw2 : Addr) (gw3 : Addr) (gw4 : Addr) (G : GG Z gw0 gw1 gw2 gw3 gw4) (P0 : 0 ≤ xi.toInt ∧ xi.toInt < 5) :
    MetFree l (⟨"com/example/breach_or_proof/breachorproof/analysis/PathStepEqualsPinLaw", "branch", "(I)Lcom/example/breach_or_proof/breachorproof/analysis/PathStep$Branch;"⟩ : MethodName) (head1 (Jvm.Cond.code (⟨"com/example/breach_or_proof/breachorproof/analysis/PathStepEqualsPinLaw", "branch", "(I)Lcom/example/breach_or_proof/breachorproof/analysis/PathStep$Branch;"⟩ : MethodName) method_3_code 1 (some (.object "com/example/breach_or_proof/breachorproof/analysis/PathStep$Branch")) :: ws) ({ frames := 0, cells := 0, slots := 0, locals := 0 } : Room)) (fun as_ U_ => as_ = #[(.int xi)] ∧ Z.Warmed39 U_.vm ∧ U_.heap = h0) (fun _ _ _ _ _ => True) (fun _ U_ o_ U2_ => ∃ v_ L_, o_ = .returned v_ ∧ Q_own_branch Z xi gw0 gw1 gw2 gw3 gw4 h0 n0 v_ U2_.heap L_ ∧ FrameEnd U_ o_ U2_ L_ ({ frames := 0, cells := 0, slots := 0, locals := 0 } : Room).cells ({ frames := 0, cells := 0, slots := 0, locals := 0 } : Room).slots) := by
  refine MetFree.of_bodySF (plainFor_of_name own_pn_com_example_breach_or_proof_breachorproof_analysis_PathStepEqualsPinLaw) hisR ?_
  intro p e s m args below meth c s₁ Bd hml0 hP hK
  obtain ⟨rfl, hZ, hh⟩ := hP
  have hx := Bd.exec
  have hby := Bd.bytes
  have hml : c.maxLocals = 1 := hml0
  have hown : s.vm.findClass "com/example/breach_or_proof/breachorproof/analysis/PathStepEqualsPinLaw" = some m.cls := findClass_of_methodNamed Bd.named
  have hnm := (name_of_methodNamed Bd.named Bd.method).1
  have hlk : meth.locks = false := Bd.notSynchronized
  have hret := Bd.returns
  have X0 : Stand p l e ({ frames := 0, cells := 0, slots := 0, locals := 0 } : Room) s m #[(.int xi)] below meth c s₁ [] 0 0 := Stand.of_body Bd
  have e0 : s₁.heap = h0 := by rw [← hh, Bd.state]; rfl
  have N0 := Fr.nil n0
  have z0 : Z.heap.size = n0 := O0.1
  have z1 : n0 ≤ h0.size := z0 ▸ O0.2.1
  show own_Goes p e below (s₁.setTop (entryFrame m #[(.int xi)] 1)) (own_PostN s (Q_own_branch Z xi gw0 gw1 gw2 gw3 gw4 h0 n0) ({ frames := 0, cells := 0, slots := 0, locals := 0 } : Room).cells ({ frames := 0, cells := 0, slots := 0, locals := 0 } : Room).slots)
  refine own_cast (own_ef_own_branch m xi) ?_
  show own_Goes p e below (s₁.setTop (mkF m 0 #[.val (.int xi)] [])) _
  obtain ⟨G0, G1, G2, G3, G4, G5, G6, G7, G8, G9, G10, G11, G12, G13, G14⟩ := id G
  have ltG1 : gw0 < Z.heap.size := G1.lt
  have ltG4 : gw1 < Z.heap.size := G4.lt
  have ltG7 : gw2 < Z.heap.size := G7.lt
  have ltG10 : gw3 < Z.heap.size := G10.lt
  have ltG13 : gw4 < Z.heap.size := G13.lt
  refine own_go (fun t_ k_ => XS.iloadN X0.here hx rfl (hb hby own_d7_0) rfl k_) ?_
  show own_Goes p e below (s₁.setTop (mkF m 1 #[.val (.int xi)] [(.int xi)])) _
  by_cases hc1 : xi = (0 : Int32)
  · refine own_go (fun t_ k_ => XS.ifNo X0.here hx rfl (hb hby own_d7_1) rfl ((if0 _ _).trans (teq hc1).2) k_) ?_
    show own_Goes p e below (s₁.setTop (mkF m 4 #[.val (.int xi)] [])) _
    have q2 := G0.ext O0.2
    obtain ⟨T3, X3, e3, st3⟩ := getS2 X0 hx hZ hown (host := "") (Or.inl (hw _ (List.mem_of_getElem? (i := 81) rfl))) Via.refl e0 q2 (g := (mkF m 4 #[.val (.int xi)] [])) rfl (hb hby own_d7_4)
    refine own_go st3 ?_
    show own_Goes p e below (T3.setTop (mkF m 7 #[.val (.int xi)] [(.ref gw0)])) _
    refine own_endN X3 (v := (some (.ref gw0))) (fun h => by rw [hret] at h; cases h) hlk (by decide) (by decide) ?_ (fun fs hr => retOut X3 hx hret rfl (Or.inr (Or.inr (Or.inr (Or.inr ⟨rfl, rfl, rfl⟩)))) (hb hby own_d7_7) hr)
    show Q_own_branch Z xi gw0 gw1 gw2 gw3 gw4 h0 n0 _ T3.heap _
    rw [e3]
    have q4 := G1.ext O0.2
    exact ⟨N0, rfl, gw0, rfl, q4, (by unfold own_br; simp [hc1]), ((show (Value.int (0 : Int32)) = .int xi by rw [hc1]) ▸ G2)⟩
  · refine own_go (fun t_ k_ => XS.ifYes X0.here hx rfl (pc0 := 1) (pc' := 8) rfl (hb hby own_d7_1) rfl ((if0 _ _).trans (feq hc1).2) (by decide) (by decide) k_) ?_
    show own_Goes p e below (s₁.setTop (mkF m 8 #[.val (.int xi)] [])) _
    refine own_go (fun t_ k_ => XS.iloadN X0.here hx rfl (hb hby own_d7_8) rfl k_) ?_
    show own_Goes p e below (s₁.setTop (mkF m 9 #[.val (.int xi)] [(.int xi)])) _
    refine own_go (fun t_ k_ => XS.iconst X0.here hx rfl (hb hby own_d7_9) k_) ?_
    show own_Goes p e below (s₁.setTop (mkF m 10 #[.val (.int xi)] [(.int (1 : Int32)), (.int xi)])) _
    by_cases hc5 : xi = (1 : Int32)
    · refine own_go (fun t_ k_ => XS.icmpNo X0.here hx rfl (hb hby own_d7_10) rfl (teq hc5).2 k_) ?_
      show own_Goes p e below (s₁.setTop (mkF m 13 #[.val (.int xi)] [])) _
      have q6 := G3.ext O0.2
      obtain ⟨T7, X7, e7, st7⟩ := getS2 X0 hx hZ hown (host := "") (Or.inl (hw _ (List.mem_of_getElem? (i := 70) rfl))) Via.refl e0 q6 (g := (mkF m 13 #[.val (.int xi)] [])) rfl (hb hby own_d7_13)
      refine own_go st7 ?_
      show own_Goes p e below (T7.setTop (mkF m 16 #[.val (.int xi)] [(.ref gw1)])) _
      refine own_endN X7 (v := (some (.ref gw1))) (fun h => by rw [hret] at h; cases h) hlk (by decide) (by decide) ?_ (fun fs hr => retOut X7 hx hret rfl (Or.inr (Or.inr (Or.inr (Or.inr ⟨rfl, rfl, rfl⟩)))) (hb hby own_d7_16) hr)
      show Q_own_branch Z xi gw0 gw1 gw2 gw3 gw4 h0 n0 _ T7.heap _
      rw [e7]
      have q8 := G4.ext O0.2
      exact ⟨N0, rfl, gw1, rfl, q8, (by unfold own_br; simp [hc1, hc5]), ((show (Value.int (1 : Int32)) = .int xi by rw [hc5]) ▸ G5)⟩
    · refine own_go (fun t_ k_ => XS.icmpYes X0.here hx rfl (pc0 := 10) (pc' := 17) rfl (hb hby own_d7_10) rfl (feq hc5).2 (by decide) (by decide) k_) ?_
      show own_Goes p e below (s₁.setTop (mkF m 17 #[.val (.int xi)] [])) _
      refine own_go (fun t_ k_ => XS.iloadN X0.here hx rfl (hb hby own_d7_17) rfl k_) ?_
      show own_Goes p e below (s₁.setTop (mkF m 18 #[.val (.int xi)] [(.int xi)])) _
      refine own_go (fun t_ k_ => XS.iconst X0.here hx rfl (hb hby own_d7_18) k_) ?_
      show own_Goes p e below (s₁.setTop (mkF m 19 #[.val (.int xi)] [(.int (2 : Int32)), (.int xi)])) _
      by_cases hc9 : xi = (2 : Int32)
      · refine own_go (fun t_ k_ => XS.icmpNo X0.here hx rfl (hb hby own_d7_19) rfl (teq hc9).2 k_) ?_
        show own_Goes p e below (s₁.setTop (mkF m 22 #[.val (.int xi)] [])) _
        have q10 := G6.ext O0.2
        obtain ⟨T11, X11, e11, st11⟩ := getS2 X0 hx hZ hown (host := "") (Or.inl (hw _ (List.mem_of_getElem? (i := 86) rfl))) Via.refl e0 q10 (g := (mkF m 22 #[.val (.int xi)] [])) rfl (hb hby own_d7_22)
        refine own_go st11 ?_
        show own_Goes p e below (T11.setTop (mkF m 25 #[.val (.int xi)] [(.ref gw2)])) _
        refine own_endN X11 (v := (some (.ref gw2))) (fun h => by rw [hret] at h; cases h) hlk (by decide) (by decide) ?_ (fun fs hr => retOut X11 hx hret rfl (Or.inr (Or.inr (Or.inr (Or.inr ⟨rfl, rfl, rfl⟩)))) (hb hby own_d7_25) hr)
        show Q_own_branch Z xi gw0 gw1 gw2 gw3 gw4 h0 n0 _ T11.heap _
        rw [e11]
        have q12 := G7.ext O0.2
        exact ⟨N0, rfl, gw2, rfl, q12, (by unfold own_br; simp [hc1, hc5, hc9]), ((show (Value.int (2 : Int32)) = .int xi by rw [hc9]) ▸ G8)⟩
      · refine own_go (fun t_ k_ => XS.icmpYes X0.here hx rfl (pc0 := 19) (pc' := 26) rfl (hb hby own_d7_19) rfl (feq hc9).2 (by decide) (by decide) k_) ?_
        show own_Goes p e below (s₁.setTop (mkF m 26 #[.val (.int xi)] [])) _
        refine own_go (fun t_ k_ => XS.iloadN X0.here hx rfl (hb hby own_d7_26) rfl k_) ?_
        show own_Goes p e below (s₁.setTop (mkF m 27 #[.val (.int xi)] [(.int xi)])) _
        refine own_go (fun t_ k_ => XS.iconst X0.here hx rfl (hb hby own_d7_27) k_) ?_
        show own_Goes p e below (s₁.setTop (mkF m 28 #[.val (.int xi)] [(.int (3 : Int32)), (.int xi)])) _
        by_cases hc13 : xi = (3 : Int32)
        · refine own_go (fun t_ k_ => XS.icmpNo X0.here hx rfl (hb hby own_d7_28) rfl (teq hc13).2 k_) ?_
          show own_Goes p e below (s₁.setTop (mkF m 31 #[.val (.int xi)] [])) _
          have q14 := G9.ext O0.2
          obtain ⟨T15, X15, e15, st15⟩ := getS2 X0 hx hZ hown (host := "") (Or.inl (hw _ (List.mem_of_getElem? (i := 52) rfl))) Via.refl e0 q14 (g := (mkF m 31 #[.val (.int xi)] [])) rfl (hb hby own_d7_31)
          refine own_go st15 ?_
          show own_Goes p e below (T15.setTop (mkF m 34 #[.val (.int xi)] [(.ref gw3)])) _
          refine own_endN X15 (v := (some (.ref gw3))) (fun h => by rw [hret] at h; cases h) hlk (by decide) (by decide) ?_ (fun fs hr => retOut X15 hx hret rfl (Or.inr (Or.inr (Or.inr (Or.inr ⟨rfl, rfl, rfl⟩)))) (hb hby own_d7_34) hr)
          show Q_own_branch Z xi gw0 gw1 gw2 gw3 gw4 h0 n0 _ T15.heap _
          rw [e15]
          have q16 := G10.ext O0.2
          exact ⟨N0, rfl, gw3, rfl, q16, (by unfold own_br; simp [hc1, hc5, hc9, hc13]), ((show (Value.int (3 : Int32)) = .int xi by rw [hc13]) ▸ G11)⟩
        · refine own_go (fun t_ k_ => XS.icmpYes X0.here hx rfl (pc0 := 28) (pc' := 35) rfl (hb hby own_d7_28) rfl (feq hc13).2 (by decide) (by decide) k_) ?_
          show own_Goes p e below (s₁.setTop (mkF m 35 #[.val (.int xi)] [])) _
          have q17 := G12.ext O0.2
          obtain ⟨T18, X18, e18, st18⟩ := getS2 X0 hx hZ hown (host := "") (Or.inl (hw _ (List.mem_of_getElem? (i := 79) rfl))) Via.refl e0 q17 (g := (mkF m 35 #[.val (.int xi)] [])) rfl (hb hby own_d7_35)
          refine own_go st18 ?_
          show own_Goes p e below (T18.setTop (mkF m 38 #[.val (.int xi)] [(.ref gw4)])) _
          refine own_endN X18 (v := (some (.ref gw4))) (fun h => by rw [hret] at h; cases h) hlk (by decide) (by decide) ?_ (fun fs hr => retOut X18 hx hret rfl (Or.inr (Or.inr (Or.inr (Or.inr ⟨rfl, rfl, rfl⟩)))) (hb hby own_d7_38) hr)
          show Q_own_branch Z xi gw0 gw1 gw2 gw3 gw4 h0 n0 _ T18.heap _
          rw [e18]
          have q19 := G13.ext O0.2
          exact ⟨N0, rfl, gw4, rfl, q19, (by unfold own_br; simp [hc1, hc5, hc9, hc13]), ((show (Value.int (4 : Int32)) = .int xi by rw [(own_is4 P0 hc1 hc5 hc9 hc13)]) ▸ G14)⟩
theorem own_d8_0 : decode prog_70_method_1_code 0 = .ok (.aload_n 0, 1) := by decide +kernel
theorem own_d8_1 : decode prog_70_method_1_code 1 = .ok (.invokespecial 1, 3) := by decide +kernel
theorem own_d8_4 : decode prog_70_method_1_code 4 = .ok (.aload_n 0, 1) := by decide +kernel
theorem own_d8_5 : decode prog_70_method_1_code 5 = .ok (.aload_n 1, 1) := by decide +kernel
theorem own_d8_6 : decode prog_70_method_1_code 6 = .ok (.ldc 7, 2) := by decide +kernel
theorem own_d8_8 : decode prog_70_method_1_code 8 = .ok (.invokestatic 9, 3) := by decide +kernel
theorem own_d8_11 : decode prog_70_method_1_code 11 = .ok (.checkcast 15, 3) := by decide +kernel
theorem own_d8_14 : decode prog_70_method_1_code 14 = .ok (.putfield 17, 3) := by decide +kernel
theorem own_d8_17 : decode prog_70_method_1_code 17 = .ok (.aload_n 0, 1) := by decide +kernel
theorem own_d8_18 : decode prog_70_method_1_code 18 = .ok (.aload_n 2, 1) := by decide +kernel
theorem own_d8_19 : decode prog_70_method_1_code 19 = .ok (.ldc 22, 2) := by decide +kernel
theorem own_d8_21 : decode prog_70_method_1_code 21 = .ok (.invokestatic 9, 3) := by decide +kernel
theorem own_d8_24 : decode prog_70_method_1_code 24 = .ok (.checkcast 24, 3) := by decide +kernel
theorem own_d8_27 : decode prog_70_method_1_code 27 = .ok (.putfield 26, 3) := by decide +kernel
theorem own_d8_30 : decode prog_70_method_1_code 30 = .ok (.return_, 1) := by decide +kernel
theorem own_pn_com_example_breach_or_proof_breachorproof_analysis_PathStep : plainName "com/example/breach_or_proof/breachorproof/analysis/PathStep" = true := by first | (simp [plainName, overriddenIn]; done) | decide +kernel
theorem own_ef_own_psInit (m : MethodId) (xa : Addr) (xp : Addr) (xb : Addr) : entryFrame m #[(.ref xa), (.ref xp), (.ref xb)] 3 = mkF m 0 #[.val (.ref xa), .val (.ref xp), .val (.ref xb)] [] := by first | (simp [entryFrame, mkF, argsToLocals, Value.category]; done) | rfl
def Q_own_psInit (Z : State) (xa : Addr) (xp : Addr) (xb : Addr) (h0 : Heap) (n0 : Nat) (v : Option Value) (h : Heap) (L : List Loc) : Prop := Fr n0 L ∧ Keep h0 h [xa] ∧ v = none ∧ Fld Z h xa "com/example/breach_or_proof/breachorproof/analysis/PathStep" "process" "Lcom/example/breach_or_proof/breachorproof/Process;" (.ref xp) ∧ Fld Z h xa "com/example/breach_or_proof/breachorproof/analysis/PathStep" "branch" "Lcom/example/breach_or_proof/breachorproof/analysis/PathStep$Branch;" (.ref xb)
set_option maxRecDepth 65536 in
set_option maxHeartbeats 40000000 in
theorem own_psInit (l : Launch) (Z : State) (a0 : Array Value) (hw : ∀ d ∈ tables_1, d.before a0 Z = true) (ws : List Jvm.Cond) (xa : Addr) (xp : Addr) (xb : Addr) (h0 : Heap) (n0 : Nat) (O0 : Old Z n0 h0) (P0 : Exa Z h0 xa "com/example/breach_or_proof/breachorproof/analysis/PathStep") (P1 : Fld Z h0 xa "com/example/breach_or_proof/breachorproof/analysis/PathStep" "process" "Lcom/example/breach_or_proof/breachorproof/Process;" .null) (P2 : Fld Z h0 xa "com/example/breach_or_proof/breachorproof/analysis/PathStep" "branch" "Lcom/example/breach_or_proof/breachorproof/analysis/PathStep$Branch;" .null) (P3 : Exa Z h0 xp "com/example/breach_or_proof/breachorproof/Process$Nil") (P4 : Exa Z h0 xb "com/example/breach_or_proof/breachorproof/analysis/PathStep$Branch") (P5 : n0 ≤ xa) :
    MetFree l (⟨"com/example/breach_or_proof/breachorproof/analysis/PathStep", "<init>", "(Lcom/example/breach_or_proof/breachorproof/Process;Lcom/example/breach_or_proof/breachorproof/analysis/PathStep$Branch;)V"⟩ : MethodName) (head1 (Jvm.Cond.code (⟨"com/example/breach_or_proof/breachorproof/analysis/PathStep", "<init>", "(Lcom/example/breach_or_proof/breachorproof/Process;Lcom/example/breach_or_proof/breachorproof/analysis/PathStep$Branch;)V"⟩ : MethodName) prog_70_method_1_code 3 none :: ws) ({ frames := 1, cells := 4, slots := 60, locals := 14 } : Room)) (fun as_ U_ => as_ = #[(.ref xa), (.ref xp), (.ref xb)] ∧ Z.Warmed39 U_.vm ∧ U_.heap = h0) (fun _ _ _ _ _ => True) (fun _ U_ o_ U2_ => ∃ v_ L_, o_ = .returned v_ ∧ Q_own_psInit Z xa xp xb h0 n0 v_ U2_.heap L_ ∧ ReturnedEndW U_ o_ U2_ L_ ({ frames := 1, cells := 4, slots := 60, locals := 14 } : Room).cells ({ frames := 1, cells := 4, slots := 60, locals := 14 } : Room).slots) := by
  refine MetFree.of_bodySF (plainFor_of_name own_pn_com_example_breach_or_proof_breachorproof_analysis_PathStep) hisR ?_
  intro p e s m args below meth c s₁ Bd hml0 hP hK
  obtain ⟨rfl, hZ, hh⟩ := hP
  have hx := Bd.exec
  have hby := Bd.bytes
  have hml : c.maxLocals = 3 := hml0
  have hown : s.vm.findClass "com/example/breach_or_proof/breachorproof/analysis/PathStep" = some m.cls := findClass_of_methodNamed Bd.named
  have hnm := (name_of_methodNamed Bd.named Bd.method).1
  have hlk : meth.locks = false := Bd.notSynchronized
  have hret := Bd.returns
  have X0 : Stand p l e ({ frames := 1, cells := 4, slots := 60, locals := 14 } : Room) s m #[(.ref xa), (.ref xp), (.ref xb)] below meth c s₁ [] 0 0 := Stand.of_body Bd
  have e0 : s₁.heap = h0 := by rw [← hh, Bd.state]; rfl
  have N0 := Fr.nil n0
  have z0 : Z.heap.size = n0 := O0.1
  have z1 : n0 ≤ h0.size := z0 ▸ O0.2.1
  have K0 : Keep h0 h0 [xa] := Keep.refl _ _
  have hS0 : s.Since s.vm 0 := (State.WarmedH.refl s).since 0
  have hk0 : 0 ≤ h0.size := Nat.zero_le _
  replace X0 : Stand p l e ({ frames := 1, cells := 4, slots := 60, locals := 14 } : Room) (s.setVm s.vm) m #[(.ref xa), (.ref xp), (.ref xb)] below meth c s₁ [] 0 0 := X0
  show own_Goes p e below (s₁.setTop (entryFrame m #[(.ref xa), (.ref xp), (.ref xb)] 3)) (own_PostW s (Q_own_psInit Z xa xp xb h0 n0) ({ frames := 1, cells := 4, slots := 60, locals := 14 } : Room).cells ({ frames := 1, cells := 4, slots := 60, locals := 14 } : Room).slots)
  refine own_cast (own_ef_own_psInit m xa xp xb) ?_
  show own_Goes p e below (s₁.setTop (mkF m 0 #[.val (.ref xa), .val (.ref xp), .val (.ref xb)] [])) _
  have ltP0 : xa < h0.size := P0.lt
  have ltP3 : xp < h0.size := P3.lt
  have ltP4 : xb < h0.size := P4.lt
  refine own_go (fun t_ k_ => XS.aloadN X0.here hx rfl (hb hby own_d8_0) rfl rfl k_) ?_
  show own_Goes p e below (s₁.setTop (mkF m 1 #[.val (.ref xa), .val (.ref xp), .val (.ref xb)] [(.ref xa)])) _
  obtain ⟨T1, X1, e1, st1⟩ := initO X0 hx hZ hown (hw _ (List.mem_of_getElem? (i := 58) rfl)) (hw _ (List.mem_of_getElem? (i := 7) rfl)) (hw _ (List.mem_of_getElem? (i := 8) rfl)) e0 (g := (mkF m 1 #[.val (.ref xa), .val (.ref xp), .val (.ref xb)] [(.ref xa)])) rfl (by rw [hml]; rfl) rfl (hb hby own_d8_1) (by decide) (W := 0) (by show 2 * 0 + _ ≤ _; exact Nat.le_of_eq rfl) (by decide)
  refine own_go st1 ?_
  show own_Goes p e below (T1.setTop (mkF m 4 #[.val (.ref xa), .val (.ref xp), .val (.ref xb)] [])) _
  refine own_go (fun t_ k_ => XS.aloadN X1.here hx rfl (hb hby own_d8_4) rfl rfl k_) ?_
  show own_Goes p e below (T1.setTop (mkF m 5 #[.val (.ref xa), .val (.ref xp), .val (.ref xb)] [(.ref xa)])) _
  refine own_go (fun t_ k_ => XS.aloadN X1.here hx rfl (hb hby own_d8_5) rfl rfl k_) ?_
  show own_Goes p e below (T1.setTop (mkF m 6 #[.val (.ref xa), .val (.ref xp), .val (.ref xb)] [(.ref xp), (.ref xa)])) _
  obtain ⟨a2, T2, h2, k2, X2, e2, E2, hS2, hk2, hZ2, hown2, st2⟩ := ldcS (s := s) (vm0 := s.vm) X1 hx hZ hown (hw _ (List.mem_of_getElem? (i := 59) rfl)) (own_strs hw) e1 hS0 hk0 (g := (mkF m 6 #[.val (.ref xa), .val (.ref xp), .val (.ref xb)] [(.ref xp), (.ref xa)])) rfl (hb hby own_d8_6) (n := 28) (by decide) (by decide) (by decide) (by decide)
  refine own_go st2 ?_
  have O3 := O0.ext E2
  have sz4 : h0.size ≤ h2.size := E2.1
  have K5 := K0.ext E2
  show own_Goes p e below (T2.setTop (mkF m 8 #[.val (.ref xa), .val (.ref xp), .val (.ref xb)] [(.ref a2), (.ref xp), (.ref xa)])) _
  obtain ⟨_, _, ⟨T6, L6, k6, n6⟩, -, X6, ⟨Lc6, hQ6, l6, y6, z6⟩, st6⟩ := Jvm.LawKit.callS X2 hx (y := own_m1) hown2 (mvT hZ2 (hw _ (List.mem_of_getElem? (i := 60) rfl))) (mvT hZ2 (hw _ (List.mem_of_getElem? (i := 34) rfl))) (mvT hZ2 (hw _ (List.mem_of_getElem? (i := 35) rfl))) (mvT hZ2 (hw _ (List.mem_of_getElem? (i := 36) rfl))) (by decide) (backOf (W := 1) (own_rnn2 l Z a0 hw [] xp a2 h2 n0 O3) hZ2 (hw _ (List.mem_of_getElem? (i := 36) rfl)) (hw _ (List.mem_of_getElem? (i := 35) rfl)) (by decide) (by decide)) (g := (mkF m 8 #[.val (.ref xa), .val (.ref xp), .val (.ref xb)] [(.ref a2), (.ref xp), (.ref xa)])) rfl (by rw [hml]; rfl) (argsL := [(.ref xp), (.ref a2)]) (rest := [(.ref xa)]) (lenOf own_pd_0 rfl) rfl (by show 2 * 0 + _ ≤ _; exact Nat.le_of_eq rfl) (hb hby own_d8_8) (fun _ _ => ⟨rfl, e2, (by decide : 2 + 0 ≤ _), (by decide : 32 + 0 ≤ _)⟩)
  dsimp only [Pt.U, Pt.locs, Pt.cells, Pt.slots] at X6 l6 y6 z6 st6 hQ6
  subst l6 y6 z6
  obtain ⟨Nc6, e6, rfl⟩ := hQ6
  have N6 := Fr.app N0 Nc6
  refine own_go st6 ?_
  show own_Goes p e below (T6.setTop (mkF m 11 #[.val (.ref xa), .val (.ref xp), .val (.ref xb)] [(.ref xp), (.ref xa)])) _
  have f7 := (P3.ext E2)
  obtain ⟨T8, X8, e8, st8⟩ := castY X6 hx hZ2 hown2 (hw _ (List.mem_of_getElem? (i := 61) rfl)) e6 (Ins.of_exa f7 (hw _ (List.mem_of_getElem? (i := 62) rfl))) (g := (mkF m 11 #[.val (.ref xa), .val (.ref xp), .val (.ref xb)] [(.ref xp), (.ref xa)])) rfl rfl (hb hby own_d8_11)
  refine own_go st8 ?_
  show own_Goes p e below (T8.setTop (mkF m 14 #[.val (.ref xa), .val (.ref xp), .val (.ref xb)] [(.ref xp), (.ref xa)])) _
  have f9 := (P1.ext E2)
  have f10 := (P0.ext E2)
  obtain ⟨T11, h11, X11, e11, W11, st11⟩ := putF X8 hx hZ2 hown2 (host := "") (Or.inl (hw _ (List.mem_of_getElem? (i := 63) rfl))) Via.refl e8 f9 f10 (Or.inr ⟨(hw _ (List.mem_of_getElem? (i := 64) rfl)), rfl, hnm⟩) (hw _ (List.mem_of_getElem? (i := 47) rfl)) (ty := (.object "com/example/breach_or_proof/breachorproof/Process")) (by decide) rfl rfl (g := (mkF m 14 #[.val (.ref xa), .val (.ref xp), .val (.ref xb)] [(.ref xp), (.ref xa)])) rfl rfl (hb hby own_d8_14)
  refine own_go st11 ?_
  have O12 := O3.wr W11 (show n0 ≤ xa by omega)
  have sz13 : h11.size = h2.size := Wr.size W11
  have hk14 := Nat.le_trans hk2 (Nat.le_of_eq (Wr.size W11).symm)
  have K15 := K5.wr W11 (Or.inl (List.mem_of_getElem? (i := 0) rfl))
  have N11 := Fr.snoc X11 N6 (show n0 ≤ xa by omega)
  have Fw11 := f9.same W11
  show own_Goes p e below (T11.setTop (mkF m 17 #[.val (.ref xa), .val (.ref xp), .val (.ref xb)] [])) _
  refine own_go (fun t_ k_ => XS.aloadN X11.here hx rfl (hb hby own_d8_17) rfl rfl k_) ?_
  show own_Goes p e below (T11.setTop (mkF m 18 #[.val (.ref xa), .val (.ref xp), .val (.ref xb)] [(.ref xa)])) _
  refine own_go (fun t_ k_ => XS.aloadN X11.here hx rfl (hb hby own_d8_18) rfl rfl k_) ?_
  show own_Goes p e below (T11.setTop (mkF m 19 #[.val (.ref xa), .val (.ref xp), .val (.ref xb)] [(.ref xb), (.ref xa)])) _
  obtain ⟨a16, T16, h16, k16, X16, e16, E16, hS16, hk16, hZ16, hown16, st16⟩ := ldcS (s := s) (vm0 := T2.vm) X11 hx hZ2 hown2 (hw _ (List.mem_of_getElem? (i := 65) rfl)) (own_strs hw) e11 hS2 hk14 (g := (mkF m 19 #[.val (.ref xa), .val (.ref xp), .val (.ref xb)] [(.ref xb), (.ref xa)])) rfl (hb hby own_d8_19) (n := 24) (by decide) (by decide) (by decide) (by decide)
  refine own_go st16 ?_
  have O17 := O12.ext E16
  have sz18 : h11.size ≤ h16.size := E16.1
  have K19 := K15.ext E16
  show own_Goes p e below (T16.setTop (mkF m 21 #[.val (.ref xa), .val (.ref xp), .val (.ref xb)] [(.ref a16), (.ref xb), (.ref xa)])) _
  obtain ⟨_, _, ⟨T20, L20, k20, n20⟩, -, X20, ⟨Lc20, hQ20, l20, y20, z20⟩, st20⟩ := Jvm.LawKit.callS X16 hx (y := own_m1) hown16 (mvT hZ16 (hw _ (List.mem_of_getElem? (i := 60) rfl))) (mvT hZ16 (hw _ (List.mem_of_getElem? (i := 34) rfl))) (mvT hZ16 (hw _ (List.mem_of_getElem? (i := 35) rfl))) (mvT hZ16 (hw _ (List.mem_of_getElem? (i := 36) rfl))) (by decide) (backOf (W := 1) (own_rnn2 l Z a0 hw [] xb a16 h16 n0 O17) hZ16 (hw _ (List.mem_of_getElem? (i := 36) rfl)) (hw _ (List.mem_of_getElem? (i := 35) rfl)) (by decide) (by decide)) (g := (mkF m 21 #[.val (.ref xa), .val (.ref xp), .val (.ref xb)] [(.ref a16), (.ref xb), (.ref xa)])) rfl (by rw [hml]; rfl) (argsL := [(.ref xb), (.ref a16)]) (rest := [(.ref xa)]) (lenOf own_pd_0 rfl) rfl (by show 2 * 0 + _ ≤ _; exact Nat.le_of_eq rfl) (hb hby own_d8_21) (fun _ _ => ⟨rfl, e16, (by decide : 4 + 0 ≤ _), (by decide : 60 + 0 ≤ _)⟩)
  dsimp only [Pt.U, Pt.locs, Pt.cells, Pt.slots] at X20 l20 y20 z20 st20 hQ20
  subst l20 y20 z20
  obtain ⟨Nc20, e20, rfl⟩ := hQ20
  have N20 := Fr.app N11 Nc20
  refine own_go st20 ?_
  show own_Goes p e below (T20.setTop (mkF m 24 #[.val (.ref xa), .val (.ref xp), .val (.ref xb)] [(.ref xb), (.ref xa)])) _
  have f21 := (((P4.ext E2).wr W11).ext E16)
  obtain ⟨T22, X22, e22, st22⟩ := castY X20 hx hZ16 hown16 (hw _ (List.mem_of_getElem? (i := 66) rfl)) e20 (Ins.self f21) (g := (mkF m 24 #[.val (.ref xa), .val (.ref xp), .val (.ref xb)] [(.ref xb), (.ref xa)])) rfl rfl (hb hby own_d8_24)
  refine own_go st22 ?_
  show own_Goes p e below (T22.setTop (mkF m 27 #[.val (.ref xa), .val (.ref xp), .val (.ref xb)] [(.ref xb), (.ref xa)])) _
  have f23 := (((P2.ext E2).other W11 (Or.inr (slot_ne (Or.inr (hw _ (List.mem_of_getElem? (i := 69) rfl))) (Or.inr (hw _ (List.mem_of_getElem? (i := 64) rfl))) (by decide) (t := (.object "com/example/breach_or_proof/breachorproof/analysis/PathStep$Branch")) (t' := (.object "com/example/breach_or_proof/breachorproof/Process")) (by decide) (by decide)))).ext E16)
  have f24 := ((f10.wr W11).ext E16)
  obtain ⟨T25, h25, X25, e25, W25, st25⟩ := putF X22 hx hZ16 hown16 (host := "") (Or.inl (hw _ (List.mem_of_getElem? (i := 68) rfl))) Via.refl e22 f23 f24 (Or.inr ⟨(hw _ (List.mem_of_getElem? (i := 69) rfl)), rfl, hnm⟩) (hw _ (List.mem_of_getElem? (i := 47) rfl)) (ty := (.object "com/example/breach_or_proof/breachorproof/analysis/PathStep$Branch")) (by decide) rfl rfl (g := (mkF m 27 #[.val (.ref xa), .val (.ref xp), .val (.ref xb)] [(.ref xb), (.ref xa)])) rfl rfl (hb hby own_d8_27)
  refine own_go st25 ?_
  have O26 := O17.wr W25 (show n0 ≤ xa by omega)
  have sz27 : h25.size = h16.size := Wr.size W25
  have hk28 := Nat.le_trans hk16 (Nat.le_of_eq (Wr.size W25).symm)
  have K29 := K19.wr W25 (Or.inl (List.mem_of_getElem? (i := 0) rfl))
  have N25 := Fr.snoc X25 N20 (show n0 ≤ xa by omega)
  have Fw25 := f23.same W25
  show own_Goes p e below (T25.setTop (mkF m 30 #[.val (.ref xa), .val (.ref xp), .val (.ref xb)] [])) _
  refine own_endW X25 hS16 (show _ ≤ T25.heap.size by rw [e25]; exact hk28) (v := none) (fun _ => rfl) hlk (by decide) (by decide) ?_ (fun fs hr => X25.returnOut hx hret (hb hby own_d8_30) hr)
  show Q_own_psInit Z xa xp xb h0 n0 _ T25.heap _
  rw [e25]
  have f30 := ((Fw11.ext E16).other W25 (Or.inr (slot_ne (Or.inr (hw _ (List.mem_of_getElem? (i := 64) rfl))) (Or.inr (hw _ (List.mem_of_getElem? (i := 69) rfl))) (by decide) (t := (.object "com/example/breach_or_proof/breachorproof/Process")) (t' := (.object "com/example/breach_or_proof/breachorproof/analysis/PathStep$Branch")) (by decide) (by decide))))
  exact ⟨N25, K29, rfl, f30, Fw25⟩
theorem own_d9_0 : decode prog_70_method_4_code 0 = .ok (.aload_n 1, 1) := by decide +kernel
theorem own_d9_1 : decode prog_70_method_4_code 1 = .ok (.instanceof 18, 3) := by decide +kernel
theorem own_d9_4 : decode prog_70_method_4_code 4 = .ok (.ifCond .ne 5, 3) := by decide +kernel
theorem own_d9_7 : decode prog_70_method_4_code 7 = .ok (.iconst 0, 1) := by decide +kernel
theorem own_d9_8 : decode prog_70_method_4_code 8 = .ok (.ireturn, 1) := by decide +kernel
theorem own_ef_own_eqN (m : MethodId) (xa : Addr) : entryFrame m #[(.ref xa), .null] 3 = mkF m 0 #[.val (.ref xa), .val .null, .unset] [] := by first | (simp [entryFrame, mkF, argsToLocals, Value.category]; done) | rfl
def Q_own_eqN (Z : State) (xa : Addr) (h0 : Heap) (n0 : Nat) (v : Option Value) (h : Heap) (L : List Loc) : Prop := Fr n0 L ∧ h = h0 ∧ v = some (.int (0 : Int32))
set_option maxRecDepth 65536 in
set_option maxHeartbeats 40000000 in
theorem own_eqN (l : Launch) (Z : State) (a0 : Array Value) (hw : ∀ d ∈ tables_1, d.before a0 Z = true) (ws : List Jvm.Cond) (xa : Addr) (h0 : Heap) (n0 : Nat) (O0 : Old Z n0 h0) :
    MetFree l (⟨"com/example/breach_or_proof/breachorproof/analysis/PathStep", "equals", "(Ljava/lang/Object;)Z"⟩ : MethodName) (head1 (Jvm.Cond.code (⟨"com/example/breach_or_proof/breachorproof/analysis/PathStep", "equals", "(Ljava/lang/Object;)Z"⟩ : MethodName) prog_70_method_4_code 3 (some .boolean) :: ws) ({ frames := 0, cells := 0, slots := 0, locals := 0 } : Room)) (fun as_ U_ => as_ = #[(.ref xa), .null] ∧ Z.Warmed39 U_.vm ∧ U_.heap = h0) (fun _ _ _ _ _ => True) (fun _ U_ o_ U2_ => ∃ v_ L_, o_ = .returned v_ ∧ Q_own_eqN Z xa h0 n0 v_ U2_.heap L_ ∧ FrameEnd U_ o_ U2_ L_ ({ frames := 0, cells := 0, slots := 0, locals := 0 } : Room).cells ({ frames := 0, cells := 0, slots := 0, locals := 0 } : Room).slots) := by
  refine MetFree.of_bodySF (plainFor_of_name own_pn_com_example_breach_or_proof_breachorproof_analysis_PathStep) hisR ?_
  intro p e s m args below meth c s₁ Bd hml0 hP hK
  obtain ⟨rfl, hZ, hh⟩ := hP
  have hx := Bd.exec
  have hby := Bd.bytes
  have hml : c.maxLocals = 3 := hml0
  have hown : s.vm.findClass "com/example/breach_or_proof/breachorproof/analysis/PathStep" = some m.cls := findClass_of_methodNamed Bd.named
  have hnm := (name_of_methodNamed Bd.named Bd.method).1
  have hlk : meth.locks = false := Bd.notSynchronized
  have hret := Bd.returns
  have X0 : Stand p l e ({ frames := 0, cells := 0, slots := 0, locals := 0 } : Room) s m #[(.ref xa), .null] below meth c s₁ [] 0 0 := Stand.of_body Bd
  have e0 : s₁.heap = h0 := by rw [← hh, Bd.state]; rfl
  have N0 := Fr.nil n0
  have z0 : Z.heap.size = n0 := O0.1
  have z1 : n0 ≤ h0.size := z0 ▸ O0.2.1
  show own_Goes p e below (s₁.setTop (entryFrame m #[(.ref xa), .null] 3)) (own_PostN s (Q_own_eqN Z xa h0 n0) ({ frames := 0, cells := 0, slots := 0, locals := 0 } : Room).cells ({ frames := 0, cells := 0, slots := 0, locals := 0 } : Room).slots)
  refine own_cast (own_ef_own_eqN m xa) ?_
  show own_Goes p e below (s₁.setTop (mkF m 0 #[.val (.ref xa), .val .null, .unset] [])) _
  refine own_go (fun t_ k_ => XS.aloadN X0.here hx rfl (hb hby own_d9_0) rfl rfl k_) ?_
  show own_Goes p e below (s₁.setTop (mkF m 1 #[.val (.ref xa), .val .null, .unset] [.null])) _
  refine own_go (fun t_ k_ => X0.instanceofNull hx (g := (mkF m 1 #[.val (.ref xa), .val .null, .unset] [.null])) rfl rfl (hb hby own_d9_1) _ k_) ?_
  show own_Goes p e below (s₁.setTop (mkF m 4 #[.val (.ref xa), .val .null, .unset] [(.int (0 : Int32))])) _
  refine own_go (fun t_ k_ => XS.ifNo X0.here hx rfl (hb hby own_d9_4) rfl ((if0 _ _).trans (teq (show ((0 : Int32) = (0 : Int32)) from by decide)).2) k_) ?_
  show own_Goes p e below (s₁.setTop (mkF m 7 #[.val (.ref xa), .val .null, .unset] [])) _
  refine own_go (fun t_ k_ => XS.iconst X0.here hx rfl (hb hby own_d9_7) k_) ?_
  show own_Goes p e below (s₁.setTop (mkF m 8 #[.val (.ref xa), .val .null, .unset] [(.int (0 : Int32))])) _
  refine own_endN X0 (v := (some (.int (0 : Int32)))) (fun h => by rw [hret] at h; cases h) hlk (by decide) (by decide) ?_ (fun fs hr => retOut X0 hx hret rfl (Or.inl ⟨rfl, Or.inr (Or.inl rfl), _, rfl⟩) (hb hby own_d9_8) hr)
  show Q_own_eqN Z xa h0 n0 _ s₁.heap _
  rw [e0]
  exact ⟨N0, rfl, rfl⟩
theorem own_ef_own_eqO (m : MethodId) (xa : Addr) (xo : Addr) : entryFrame m #[(.ref xa), (.ref xo)] 3 = mkF m 0 #[.val (.ref xa), .val (.ref xo), .unset] [] := by first | (simp [entryFrame, mkF, argsToLocals, Value.category]; done) | rfl
def Q_own_eqO (Z : State) (xa : Addr) (xo : Addr) (h0 : Heap) (n0 : Nat) (v : Option Value) (h : Heap) (L : List Loc) : Prop := Fr n0 L ∧ h = h0 ∧ v = some (.int (0 : Int32))
set_option maxRecDepth 65536 in
set_option maxHeartbeats 40000000 in
theorem own_eqO (l : Launch) (Z : State) (a0 : Array Value) (hw : ∀ d ∈ tables_1, d.before a0 Z = true) (ws : List Jvm.Cond) (xa : Addr) (xo : Addr) (h0 : Heap) (n0 : Nat) (O0 : Old Z n0 h0) (P0 : Exa Z h0 xo "com/example/breach_or_proof/breachorproof/Process$Nil") :
    MetFree l (⟨"com/example/breach_or_proof/breachorproof/analysis/PathStep", "equals", "(Ljava/lang/Object;)Z"⟩ : MethodName) (head1 (Jvm.Cond.code (⟨"com/example/breach_or_proof/breachorproof/analysis/PathStep", "equals", "(Ljava/lang/Object;)Z"⟩ : MethodName) prog_70_method_4_code 3 (some .boolean) :: ws) ({ frames := 0, cells := 0, slots := 0, locals := 0 } : Room)) (fun as_ U_ => as_ = #[(.ref xa), (.ref xo)] ∧ Z.Warmed39 U_.vm ∧ U_.heap = h0) (fun _ _ _ _ _ => True) (fun _ U_ o_ U2_ => ∃ v_ L_, o_ = .returned v_ ∧ Q_own_eqO Z xa xo h0 n0 v_ U2_.heap L_ ∧ FrameEnd U_ o_ U2_ L_ ({ frames := 0, cells := 0, slots := 0, locals := 0 } : Room).cells ({ frames := 0, cells := 0, slots := 0, locals := 0 } : Room).slots) := by
  refine MetFree.of_bodySF (plainFor_of_name own_pn_com_example_breach_or_proof_breachorproof_analysis_PathStep) hisR ?_
  intro p e s m args below meth c s₁ Bd hml0 hP hK
  obtain ⟨rfl, hZ, hh⟩ := hP
  have hx := Bd.exec
  have hby := Bd.bytes
  have hml : c.maxLocals = 3 := hml0
  have hown : s.vm.findClass "com/example/breach_or_proof/breachorproof/analysis/PathStep" = some m.cls := findClass_of_methodNamed Bd.named
  have hnm := (name_of_methodNamed Bd.named Bd.method).1
  have hlk : meth.locks = false := Bd.notSynchronized
  have hret := Bd.returns
  have X0 : Stand p l e ({ frames := 0, cells := 0, slots := 0, locals := 0 } : Room) s m #[(.ref xa), (.ref xo)] below meth c s₁ [] 0 0 := Stand.of_body Bd
  have e0 : s₁.heap = h0 := by rw [← hh, Bd.state]; rfl
  have N0 := Fr.nil n0
  have z0 : Z.heap.size = n0 := O0.1
  have z1 : n0 ≤ h0.size := z0 ▸ O0.2.1
  show own_Goes p e below (s₁.setTop (entryFrame m #[(.ref xa), (.ref xo)] 3)) (own_PostN s (Q_own_eqO Z xa xo h0 n0) ({ frames := 0, cells := 0, slots := 0, locals := 0 } : Room).cells ({ frames := 0, cells := 0, slots := 0, locals := 0 } : Room).slots)
  refine own_cast (own_ef_own_eqO m xa xo) ?_
  show own_Goes p e below (s₁.setTop (mkF m 0 #[.val (.ref xa), .val (.ref xo), .unset] [])) _
  have ltP0 : xo < h0.size := P0.lt
  refine own_go (fun t_ k_ => XS.aloadN X0.here hx rfl (hb hby own_d9_0) rfl rfl k_) ?_
  show own_Goes p e below (s₁.setTop (mkF m 1 #[.val (.ref xa), .val (.ref xo), .unset] [(.ref xo)])) _
  obtain ⟨T1, X1, e1, st1⟩ := instNo X0 hx hZ hown (hw _ (List.mem_of_getElem? (i := 77) rfl)) e0 P0 (own_NSno (hw _ (List.mem_of_getElem? (i := 83) rfl)) (hw _ (List.mem_of_getElem? (i := 47) rfl)) (NS.step (hw _ (List.mem_of_getElem? (i := 83) rfl)) (NS.step (hw _ (List.mem_of_getElem? (i := 84) rfl)) (own_NSroot (hw _ (List.mem_of_getElem? (i := 85) rfl)) (hw _ (List.mem_of_getElem? (i := 47) rfl)) (by decide)) (by decide)) (by decide)) (by decide)) (g := (mkF m 1 #[.val (.ref xa), .val (.ref xo), .unset] [(.ref xo)])) rfl rfl (hb hby own_d9_1)
  refine own_go st1 ?_
  show own_Goes p e below (T1.setTop (mkF m 4 #[.val (.ref xa), .val (.ref xo), .unset] [(.int (0 : Int32))])) _
  refine own_go (fun t_ k_ => XS.ifNo X1.here hx rfl (hb hby own_d9_4) rfl ((if0 _ _).trans (teq (show ((0 : Int32) = (0 : Int32)) from by decide)).2) k_) ?_
  show own_Goes p e below (T1.setTop (mkF m 7 #[.val (.ref xa), .val (.ref xo), .unset] [])) _
  refine own_go (fun t_ k_ => XS.iconst X1.here hx rfl (hb hby own_d9_7) k_) ?_
  show own_Goes p e below (T1.setTop (mkF m 8 #[.val (.ref xa), .val (.ref xo), .unset] [(.int (0 : Int32))])) _
  refine own_endN X1 (v := (some (.int (0 : Int32)))) (fun h => by rw [hret] at h; cases h) hlk (by decide) (by decide) ?_ (fun fs hr => retOut X1 hx hret rfl (Or.inl ⟨rfl, Or.inr (Or.inl rfl), _, rfl⟩) (hb hby own_d9_8) hr)
  show Q_own_eqO Z xa xo h0 n0 _ T1.heap _
  rw [e1]
  exact ⟨N0, rfl, rfl⟩
theorem own_d9_9 : decode prog_70_method_4_code 9 = .ok (.aload_n 1, 1) := by decide +kernel
theorem own_d9_10 : decode prog_70_method_4_code 10 = .ok (.checkcast 18, 3) := by decide +kernel
theorem own_d9_13 : decode prog_70_method_4_code 13 = .ok (.astore_n 2, 1) := by decide +kernel
theorem own_d9_14 : decode prog_70_method_4_code 14 = .ok (.aload_n 0, 1) := by decide +kernel
theorem own_d9_15 : decode prog_70_method_4_code 15 = .ok (.getfield 17, 3) := by decide +kernel
theorem own_d9_18 : decode prog_70_method_4_code 18 = .ok (.aload_n 2, 1) := by decide +kernel
theorem own_d9_19 : decode prog_70_method_4_code 19 = .ok (.getfield 17, 3) := by decide +kernel
theorem own_d9_22 : decode prog_70_method_4_code 22 = .ok (.if_acmp .ne 18, 3) := by decide +kernel
theorem own_d9_25 : decode prog_70_method_4_code 25 = .ok (.aload_n 0, 1) := by decide +kernel
theorem own_d9_26 : decode prog_70_method_4_code 26 = .ok (.getfield 26, 3) := by decide +kernel
theorem own_d9_29 : decode prog_70_method_4_code 29 = .ok (.aload_n 2, 1) := by decide +kernel
theorem own_d9_30 : decode prog_70_method_4_code 30 = .ok (.getfield 26, 3) := by decide +kernel
theorem own_d9_33 : decode prog_70_method_4_code 33 = .ok (.if_acmp .ne 7, 3) := by decide +kernel
theorem own_d9_36 : decode prog_70_method_4_code 36 = .ok (.iconst 1, 1) := by decide +kernel
theorem own_d9_37 : decode prog_70_method_4_code 37 = .ok (.goto 4, 3) := by decide +kernel
theorem own_d9_41 : decode prog_70_method_4_code 41 = .ok (.ireturn, 1) := by decide +kernel
theorem own_ef_own_eqT (m : MethodId) (xa : Addr) (xo : Addr) : entryFrame m #[(.ref xa), (.ref xo)] 3 = mkF m 0 #[.val (.ref xa), .val (.ref xo), .unset] [] := by first | (simp [entryFrame, mkF, argsToLocals, Value.category]; done) | rfl
def Q_own_eqT (Z : State) (xa : Addr) (xo : Addr) (xp : Addr) (xq : Addr) (xr : Addr) (xs : Addr) (h0 : Heap) (n0 : Nat) (v : Option Value) (h : Heap) (L : List Loc) : Prop := Fr n0 L ∧ h = h0 ∧ v = some (.int (1 : Int32))
set_option maxRecDepth 65536 in
set_option maxHeartbeats 40000000 in
theorem own_eqT (l : Launch) (Z : State) (a0 : Array Value) (hw : ∀ d ∈ tables_1, d.before a0 Z = true) (ws : List Jvm.Cond) (xa : Addr) (xo : Addr) (xp : Addr) (xq : Addr) (xr : Addr) (xs : Addr) (h0 : Heap) (n0 : Nat) (O0 : Old Z n0 h0) (P0 : Exa Z h0 xo "com/example/breach_or_proof/breachorproof/analysis/PathStep") (P1 : Fld Z h0 xa "com/example/breach_or_proof/breachorproof/analysis/PathStep" "process" "Lcom/example/breach_or_proof/breachorproof/Process;" (.ref xp)) (P2 : Fld Z h0 xo "com/example/breach_or_proof/breachorproof/analysis/PathStep" "process" "Lcom/example/breach_or_proof/breachorproof/Process;" (.ref xq)) (P3 : Fld Z h0 xa "com/example/breach_or_proof/breachorproof/analysis/PathStep" "branch" "Lcom/example/breach_or_proof/breachorproof/analysis/PathStep$Branch;" (.ref xr)) (P4 : Fld Z h0 xo "com/example/breach_or_proof/breachorproof/analysis/PathStep" "branch" "Lcom/example/breach_or_proof/breachorproof/analysis/PathStep$Branch;" (.ref xs)) (P5 : xp = xq) (P6 : xr = xs) :
    MetFree l (⟨"com/example/breach_or_proof/breachorproof/analysis/PathStep", "equals", "(Ljava/lang/Object;)Z"⟩ : MethodName) (head1 (Jvm.Cond.code (⟨"com/example/breach_or_proof/breachorproof/analysis/PathStep", "equals", "(Ljava/lang/Object;)Z"⟩ : MethodName) prog_70_method_4_code 3 (some .boolean) :: ws) ({ frames := 0, cells := 0, slots := 0, locals := 0 } : Room)) (fun as_ U_ => as_ = #[(.ref xa), (.ref xo)] ∧ Z.Warmed39 U_.vm ∧ U_.heap = h0) (fun _ _ _ _ _ => True) (fun _ U_ o_ U2_ => ∃ v_ L_, o_ = .returned v_ ∧ Q_own_eqT Z xa xo xp xq xr xs h0 n0 v_ U2_.heap L_ ∧ FrameEnd U_ o_ U2_ L_ ({ frames := 0, cells := 0, slots := 0, locals := 0 } : Room).cells ({ frames := 0, cells := 0, slots := 0, locals := 0 } : Room).slots) := by
  refine MetFree.of_bodySF (plainFor_of_name own_pn_com_example_breach_or_proof_breachorproof_analysis_PathStep) hisR ?_
  intro p e s m args below meth c s₁ Bd hml0 hP hK
  obtain ⟨rfl, hZ, hh⟩ := hP
  have hx := Bd.exec
  have hby := Bd.bytes
  have hml : c.maxLocals = 3 := hml0
  have hown : s.vm.findClass "com/example/breach_or_proof/breachorproof/analysis/PathStep" = some m.cls := findClass_of_methodNamed Bd.named
  have hnm := (name_of_methodNamed Bd.named Bd.method).1
  have hlk : meth.locks = false := Bd.notSynchronized
  have hret := Bd.returns
  have X0 : Stand p l e ({ frames := 0, cells := 0, slots := 0, locals := 0 } : Room) s m #[(.ref xa), (.ref xo)] below meth c s₁ [] 0 0 := Stand.of_body Bd
  have e0 : s₁.heap = h0 := by rw [← hh, Bd.state]; rfl
  have N0 := Fr.nil n0
  have z0 : Z.heap.size = n0 := O0.1
  have z1 : n0 ≤ h0.size := z0 ▸ O0.2.1
  show own_Goes p e below (s₁.setTop (entryFrame m #[(.ref xa), (.ref xo)] 3)) (own_PostN s (Q_own_eqT Z xa xo xp xq xr xs h0 n0) ({ frames := 0, cells := 0, slots := 0, locals := 0 } : Room).cells ({ frames := 0, cells := 0, slots := 0, locals := 0 } : Room).slots)
  refine own_cast (own_ef_own_eqT m xa xo) ?_
  show own_Goes p e below (s₁.setTop (mkF m 0 #[.val (.ref xa), .val (.ref xo), .unset] [])) _
  have ltP0 : xo < h0.size := P0.lt
  refine own_go (fun t_ k_ => XS.aloadN X0.here hx rfl (hb hby own_d9_0) rfl rfl k_) ?_
  show own_Goes p e below (s₁.setTop (mkF m 1 #[.val (.ref xa), .val (.ref xo), .unset] [(.ref xo)])) _
  obtain ⟨T1, X1, e1, st1⟩ := instY X0 hx hZ hown (hw _ (List.mem_of_getElem? (i := 77) rfl)) e0 (Ins.self P0) (g := (mkF m 1 #[.val (.ref xa), .val (.ref xo), .unset] [(.ref xo)])) rfl rfl (hb hby own_d9_1)
  refine own_go st1 ?_
  show own_Goes p e below (T1.setTop (mkF m 4 #[.val (.ref xa), .val (.ref xo), .unset] [(.int (1 : Int32))])) _
  refine own_go (fun t_ k_ => XS.ifYes X1.here hx rfl (pc0 := 4) (pc' := 9) rfl (hb hby own_d9_4) rfl ((if0 _ _).trans (feq (show ¬ ((1 : Int32) = (0 : Int32)) from by decide)).2) (by decide) (by decide) k_) ?_
  show own_Goes p e below (T1.setTop (mkF m 9 #[.val (.ref xa), .val (.ref xo), .unset] [])) _
  refine own_go (fun t_ k_ => XS.aloadN X1.here hx rfl (hb hby own_d9_9) rfl rfl k_) ?_
  show own_Goes p e below (T1.setTop (mkF m 10 #[.val (.ref xa), .val (.ref xo), .unset] [(.ref xo)])) _
  obtain ⟨T2, X2, e2, st2⟩ := castY X1 hx hZ hown (hw _ (List.mem_of_getElem? (i := 77) rfl)) e1 (Ins.self P0) (g := (mkF m 10 #[.val (.ref xa), .val (.ref xo), .unset] [(.ref xo)])) rfl rfl (hb hby own_d9_10)
  refine own_go st2 ?_
  show own_Goes p e below (T2.setTop (mkF m 13 #[.val (.ref xa), .val (.ref xo), .unset] [(.ref xo)])) _
  refine own_go (fun t_ k_ => XS.astoreN X2.here hx rfl (hb hby own_d9_13) rfl rfl (l' := #[.val (.ref xa), .val (.ref xo), .val (.ref xo)]) rfl k_) ?_
  show own_Goes p e below (T2.setTop (mkF m 14 #[.val (.ref xa), .val (.ref xo), .val (.ref xo)] [])) _
  refine own_go (fun t_ k_ => XS.aloadN X2.here hx rfl (hb hby own_d9_14) rfl rfl k_) ?_
  show own_Goes p e below (T2.setTop (mkF m 15 #[.val (.ref xa), .val (.ref xo), .val (.ref xo)] [(.ref xa)])) _
  obtain ⟨T3, X3, e3, st3⟩ := getF X2 hx hZ hown (host := "") (Or.inl (hw _ (List.mem_of_getElem? (i := 63) rfl))) Via.refl e2 P1 (g := (mkF m 15 #[.val (.ref xa), .val (.ref xo), .val (.ref xo)] [(.ref xa)])) rfl rfl (hb hby own_d9_15)
  refine own_go st3 ?_
  show own_Goes p e below (T3.setTop (mkF m 18 #[.val (.ref xa), .val (.ref xo), .val (.ref xo)] [(.ref xp)])) _
  refine own_go (fun t_ k_ => XS.aloadN X3.here hx rfl (hb hby own_d9_18) rfl rfl k_) ?_
  show own_Goes p e below (T3.setTop (mkF m 19 #[.val (.ref xa), .val (.ref xo), .val (.ref xo)] [(.ref xo), (.ref xp)])) _
  obtain ⟨T4, X4, e4, st4⟩ := getF X3 hx hZ hown (host := "") (Or.inl (hw _ (List.mem_of_getElem? (i := 63) rfl))) Via.refl e3 P2 (g := (mkF m 19 #[.val (.ref xa), .val (.ref xo), .val (.ref xo)] [(.ref xo), (.ref xp)])) rfl rfl (hb hby own_d9_19)
  refine own_go st4 ?_
  show own_Goes p e below (T4.setTop (mkF m 22 #[.val (.ref xa), .val (.ref xo), .val (.ref xo)] [(.ref xq), (.ref xp)])) _
  refine own_go (fun t_ k_ => Jvm.RoadKit.acmp (g := (mkF m 22 #[.val (.ref xa), .val (.ref xo), .val (.ref xo)] [(.ref xq), (.ref xp)])) X4 hx rfl rfl rfl (pc0 := 22) (pc' := 25) (same := true) rfl (hb hby own_d9_22) rfl (decide_eq_true (congrArg Value.ref (show (xp = xq) from P5))) (by decide) (by decide) k_) ?_
  show own_Goes p e below (T4.setTop (mkF m 25 #[.val (.ref xa), .val (.ref xo), .val (.ref xo)] [])) _
  refine own_go (fun t_ k_ => XS.aloadN X4.here hx rfl (hb hby own_d9_25) rfl rfl k_) ?_
  show own_Goes p e below (T4.setTop (mkF m 26 #[.val (.ref xa), .val (.ref xo), .val (.ref xo)] [(.ref xa)])) _
  obtain ⟨T5, X5, e5, st5⟩ := getF X4 hx hZ hown (host := "") (Or.inl (hw _ (List.mem_of_getElem? (i := 68) rfl))) Via.refl e4 P3 (g := (mkF m 26 #[.val (.ref xa), .val (.ref xo), .val (.ref xo)] [(.ref xa)])) rfl rfl (hb hby own_d9_26)
  refine own_go st5 ?_
  show own_Goes p e below (T5.setTop (mkF m 29 #[.val (.ref xa), .val (.ref xo), .val (.ref xo)] [(.ref xr)])) _
  refine own_go (fun t_ k_ => XS.aloadN X5.here hx rfl (hb hby own_d9_29) rfl rfl k_) ?_
  show own_Goes p e below (T5.setTop (mkF m 30 #[.val (.ref xa), .val (.ref xo), .val (.ref xo)] [(.ref xo), (.ref xr)])) _
  obtain ⟨T6, X6, e6, st6⟩ := getF X5 hx hZ hown (host := "") (Or.inl (hw _ (List.mem_of_getElem? (i := 68) rfl))) Via.refl e5 P4 (g := (mkF m 30 #[.val (.ref xa), .val (.ref xo), .val (.ref xo)] [(.ref xo), (.ref xr)])) rfl rfl (hb hby own_d9_30)
  refine own_go st6 ?_
  show own_Goes p e below (T6.setTop (mkF m 33 #[.val (.ref xa), .val (.ref xo), .val (.ref xo)] [(.ref xs), (.ref xr)])) _
  refine own_go (fun t_ k_ => Jvm.RoadKit.acmp (g := (mkF m 33 #[.val (.ref xa), .val (.ref xo), .val (.ref xo)] [(.ref xs), (.ref xr)])) X6 hx rfl rfl rfl (pc0 := 33) (pc' := 36) (same := true) rfl (hb hby own_d9_33) rfl (decide_eq_true (congrArg Value.ref (show (xr = xs) from P6))) (by decide) (by decide) k_) ?_
  show own_Goes p e below (T6.setTop (mkF m 36 #[.val (.ref xa), .val (.ref xo), .val (.ref xo)] [])) _
  refine own_go (fun t_ k_ => XS.iconst X6.here hx rfl (hb hby own_d9_36) k_) ?_
  show own_Goes p e below (T6.setTop (mkF m 37 #[.val (.ref xa), .val (.ref xo), .val (.ref xo)] [(.int (1 : Int32))])) _
  refine own_go (fun t_ k_ => XS.goto X6.here hx rfl (pc0 := 37) (pc' := 41) rfl (hb hby own_d9_37) (by decide) (by decide) k_) ?_
  show own_Goes p e below (T6.setTop (mkF m 41 #[.val (.ref xa), .val (.ref xo), .val (.ref xo)] [(.int (1 : Int32))])) _
  refine own_endN X6 (v := (some (.int (1 : Int32)))) (fun h => by rw [hret] at h; cases h) hlk (by decide) (by decide) ?_ (fun fs hr => retOut X6 hx hret rfl (Or.inl ⟨rfl, Or.inr (Or.inl rfl), _, rfl⟩) (hb hby own_d9_41) hr)
  show Q_own_eqT Z xa xo xp xq xr xs h0 n0 _ T6.heap _
  rw [e6]
  exact ⟨N0, rfl, rfl⟩
theorem own_d9_40 : decode prog_70_method_4_code 40 = .ok (.iconst 0, 1) := by decide +kernel
theorem own_ef_own_eqF (m : MethodId) (xa : Addr) (xo : Addr) : entryFrame m #[(.ref xa), (.ref xo)] 3 = mkF m 0 #[.val (.ref xa), .val (.ref xo), .unset] [] := by first | (simp [entryFrame, mkF, argsToLocals, Value.category]; done) | rfl
def Q_own_eqF (Z : State) (xa : Addr) (xo : Addr) (xp : Addr) (xq : Addr) (xr : Addr) (xs : Addr) (h0 : Heap) (n0 : Nat) (v : Option Value) (h : Heap) (L : List Loc) : Prop := Fr n0 L ∧ h = h0 ∧ v = some (.int (0 : Int32))
set_option maxRecDepth 65536 in
set_option maxHeartbeats 40000000 in
theorem own_eqF (l : Launch) (Z : State) (a0 : Array Value) (hw : ∀ d ∈ tables_1, d.before a0 Z = true) (ws : List Jvm.Cond) (xa : Addr) (xo : Addr) (xp : Addr) (xq : Addr) (xr : Addr) (xs : Addr) (h0 : Heap) (n0 : Nat) (O0 : Old Z n0 h0) (P0 : Exa Z h0 xo "com/example/breach_or_proof/breachorproof/analysis/PathStep") (P1 : Fld Z h0 xa "com/example/breach_or_proof/breachorproof/analysis/PathStep" "process" "Lcom/example/breach_or_proof/breachorproof/Process;" (.ref xp)) (P2 : Fld Z h0 xo "com/example/breach_or_proof/breachorproof/analysis/PathStep" "process" "Lcom/example/breach_or_proof/breachorproof/Process;" (.ref xq)) (P3 : Fld Z h0 xa "com/example/breach_or_proof/breachorproof/analysis/PathStep" "branch" "Lcom/example/breach_or_proof/breachorproof/analysis/PathStep$Branch;" (.ref xr)) (P4 : Fld Z h0 xo "com/example/breach_or_proof/breachorproof/analysis/PathStep" "branch" "Lcom/example/breach_or_proof/breachorproof/analysis/PathStep$Branch;" (.ref xs)) (P5 : ¬ (xp = xq ∧ xr = xs)) :
    MetFree l (⟨"com/example/breach_or_proof/breachorproof/analysis/PathStep", "equals", "(Ljava/lang/Object;)Z"⟩ : MethodName) (head1 (Jvm.Cond.code (⟨"com/example/breach_or_proof/breachorproof/analysis/PathStep", "equals", "(Ljava/lang/Object;)Z"⟩ : MethodName) prog_70_method_4_code 3 (some .boolean) :: ws) ({ frames := 0, cells := 0, slots := 0, locals := 0 } : Room)) (fun as_ U_ => as_ = #[(.ref xa), (.ref xo)] ∧ Z.Warmed39 U_.vm ∧ U_.heap = h0) (fun _ _ _ _ _ => True) (fun _ U_ o_ U2_ => ∃ v_ L_, o_ = .returned v_ ∧ Q_own_eqF Z xa xo xp xq xr xs h0 n0 v_ U2_.heap L_ ∧ FrameEnd U_ o_ U2_ L_ ({ frames := 0, cells := 0, slots := 0, locals := 0 } : Room).cells ({ frames := 0, cells := 0, slots := 0, locals := 0 } : Room).slots) := by
  refine MetFree.of_bodySF (plainFor_of_name own_pn_com_example_breach_or_proof_breachorproof_analysis_PathStep) hisR ?_
  intro p e s m args below meth c s₁ Bd hml0 hP hK
  obtain ⟨rfl, hZ, hh⟩ := hP
  have hx := Bd.exec
  have hby := Bd.bytes
  have hml : c.maxLocals = 3 := hml0
  have hown : s.vm.findClass "com/example/breach_or_proof/breachorproof/analysis/PathStep" = some m.cls := findClass_of_methodNamed Bd.named
  have hnm := (name_of_methodNamed Bd.named Bd.method).1
  have hlk : meth.locks = false := Bd.notSynchronized
  have hret := Bd.returns
  have X0 : Stand p l e ({ frames := 0, cells := 0, slots := 0, locals := 0 } : Room) s m #[(.ref xa), (.ref xo)] below meth c s₁ [] 0 0 := Stand.of_body Bd
  have e0 : s₁.heap = h0 := by rw [← hh, Bd.state]; rfl
  have N0 := Fr.nil n0
  have z0 : Z.heap.size = n0 := O0.1
  have z1 : n0 ≤ h0.size := z0 ▸ O0.2.1
  show own_Goes p e below (s₁.setTop (entryFrame m #[(.ref xa), (.ref xo)] 3)) (own_PostN s (Q_own_eqF Z xa xo xp xq xr xs h0 n0) ({ frames := 0, cells := 0, slots := 0, locals := 0 } : Room).cells ({ frames := 0, cells := 0, slots := 0, locals := 0 } : Room).slots)
  refine own_cast (own_ef_own_eqF m xa xo) ?_
  show own_Goes p e below (s₁.setTop (mkF m 0 #[.val (.ref xa), .val (.ref xo), .unset] [])) _
  have ltP0 : xo < h0.size := P0.lt
  refine own_go (fun t_ k_ => XS.aloadN X0.here hx rfl (hb hby own_d9_0) rfl rfl k_) ?_
  show own_Goes p e below (s₁.setTop (mkF m 1 #[.val (.ref xa), .val (.ref xo), .unset] [(.ref xo)])) _
  obtain ⟨T1, X1, e1, st1⟩ := instY X0 hx hZ hown (hw _ (List.mem_of_getElem? (i := 77) rfl)) e0 (Ins.self P0) (g := (mkF m 1 #[.val (.ref xa), .val (.ref xo), .unset] [(.ref xo)])) rfl rfl (hb hby own_d9_1)
  refine own_go st1 ?_
  show own_Goes p e below (T1.setTop (mkF m 4 #[.val (.ref xa), .val (.ref xo), .unset] [(.int (1 : Int32))])) _
  refine own_go (fun t_ k_ => XS.ifYes X1.here hx rfl (pc0 := 4) (pc' := 9) rfl (hb hby own_d9_4) rfl ((if0 _ _).trans (feq (show ¬ ((1 : Int32) = (0 : Int32)) from by decide)).2) (by decide) (by decide) k_) ?_
  show own_Goes p e below (T1.setTop (mkF m 9 #[.val (.ref xa), .val (.ref xo), .unset] [])) _
  refine own_go (fun t_ k_ => XS.aloadN X1.here hx rfl (hb hby own_d9_9) rfl rfl k_) ?_
  show own_Goes p e below (T1.setTop (mkF m 10 #[.val (.ref xa), .val (.ref xo), .unset] [(.ref xo)])) _
  obtain ⟨T2, X2, e2, st2⟩ := castY X1 hx hZ hown (hw _ (List.mem_of_getElem? (i := 77) rfl)) e1 (Ins.self P0) (g := (mkF m 10 #[.val (.ref xa), .val (.ref xo), .unset] [(.ref xo)])) rfl rfl (hb hby own_d9_10)
  refine own_go st2 ?_
  show own_Goes p e below (T2.setTop (mkF m 13 #[.val (.ref xa), .val (.ref xo), .unset] [(.ref xo)])) _
  refine own_go (fun t_ k_ => XS.astoreN X2.here hx rfl (hb hby own_d9_13) rfl rfl (l' := #[.val (.ref xa), .val (.ref xo), .val (.ref xo)]) rfl k_) ?_
  show own_Goes p e below (T2.setTop (mkF m 14 #[.val (.ref xa), .val (.ref xo), .val (.ref xo)] [])) _
  refine own_go (fun t_ k_ => XS.aloadN X2.here hx rfl (hb hby own_d9_14) rfl rfl k_) ?_
  show own_Goes p e below (T2.setTop (mkF m 15 #[.val (.ref xa), .val (.ref xo), .val (.ref xo)] [(.ref xa)])) _
  obtain ⟨T3, X3, e3, st3⟩ := getF X2 hx hZ hown (host := "") (Or.inl (hw _ (List.mem_of_getElem? (i := 63) rfl))) Via.refl e2 P1 (g := (mkF m 15 #[.val (.ref xa), .val (.ref xo), .val (.ref xo)] [(.ref xa)])) rfl rfl (hb hby own_d9_15)
  refine own_go st3 ?_
  show own_Goes p e below (T3.setTop (mkF m 18 #[.val (.ref xa), .val (.ref xo), .val (.ref xo)] [(.ref xp)])) _
  refine own_go (fun t_ k_ => XS.aloadN X3.here hx rfl (hb hby own_d9_18) rfl rfl k_) ?_
  show own_Goes p e below (T3.setTop (mkF m 19 #[.val (.ref xa), .val (.ref xo), .val (.ref xo)] [(.ref xo), (.ref xp)])) _
  obtain ⟨T4, X4, e4, st4⟩ := getF X3 hx hZ hown (host := "") (Or.inl (hw _ (List.mem_of_getElem? (i := 63) rfl))) Via.refl e3 P2 (g := (mkF m 19 #[.val (.ref xa), .val (.ref xo), .val (.ref xo)] [(.ref xo), (.ref xp)])) rfl rfl (hb hby own_d9_19)
  refine own_go st4 ?_
  show own_Goes p e below (T4.setTop (mkF m 22 #[.val (.ref xa), .val (.ref xo), .val (.ref xo)] [(.ref xq), (.ref xp)])) _
  by_cases hc5 : xp = xq
  · refine own_go (fun t_ k_ => Jvm.RoadKit.acmp (g := (mkF m 22 #[.val (.ref xa), .val (.ref xo), .val (.ref xo)] [(.ref xq), (.ref xp)])) X4 hx rfl rfl rfl (pc0 := 22) (pc' := 25) (same := true) rfl (hb hby own_d9_22) rfl (decide_eq_true (congrArg Value.ref hc5)) (by decide) (by decide) k_) ?_
    show own_Goes p e below (T4.setTop (mkF m 25 #[.val (.ref xa), .val (.ref xo), .val (.ref xo)] [])) _
    refine own_go (fun t_ k_ => XS.aloadN X4.here hx rfl (hb hby own_d9_25) rfl rfl k_) ?_
    show own_Goes p e below (T4.setTop (mkF m 26 #[.val (.ref xa), .val (.ref xo), .val (.ref xo)] [(.ref xa)])) _
    obtain ⟨T6, X6, e6, st6⟩ := getF X4 hx hZ hown (host := "") (Or.inl (hw _ (List.mem_of_getElem? (i := 68) rfl))) Via.refl e4 P3 (g := (mkF m 26 #[.val (.ref xa), .val (.ref xo), .val (.ref xo)] [(.ref xa)])) rfl rfl (hb hby own_d9_26)
    refine own_go st6 ?_
    show own_Goes p e below (T6.setTop (mkF m 29 #[.val (.ref xa), .val (.ref xo), .val (.ref xo)] [(.ref xr)])) _
    refine own_go (fun t_ k_ => XS.aloadN X6.here hx rfl (hb hby own_d9_29) rfl rfl k_) ?_
    show own_Goes p e below (T6.setTop (mkF m 30 #[.val (.ref xa), .val (.ref xo), .val (.ref xo)] [(.ref xo), (.ref xr)])) _
    obtain ⟨T7, X7, e7, st7⟩ := getF X6 hx hZ hown (host := "") (Or.inl (hw _ (List.mem_of_getElem? (i := 68) rfl))) Via.refl e6 P4 (g := (mkF m 30 #[.val (.ref xa), .val (.ref xo), .val (.ref xo)] [(.ref xo), (.ref xr)])) rfl rfl (hb hby own_d9_30)
    refine own_go st7 ?_
    show own_Goes p e below (T7.setTop (mkF m 33 #[.val (.ref xa), .val (.ref xo), .val (.ref xo)] [(.ref xs), (.ref xr)])) _
    refine own_go (fun t_ k_ => Jvm.RoadKit.acmp (g := (mkF m 33 #[.val (.ref xa), .val (.ref xo), .val (.ref xo)] [(.ref xs), (.ref xr)])) X7 hx rfl rfl rfl (pc0 := 33) (pc' := 40) (same := false) rfl (hb hby own_d9_33) rfl (decide_eq_false fun q => (show ¬ (xr = xs) from (fun q => P5 ⟨hc5, q⟩)) (Value.ref.inj q)) (by decide) (by decide) k_) ?_
    show own_Goes p e below (T7.setTop (mkF m 40 #[.val (.ref xa), .val (.ref xo), .val (.ref xo)] [])) _
    refine own_go (fun t_ k_ => XS.iconst X7.here hx rfl (hb hby own_d9_40) k_) ?_
    show own_Goes p e below (T7.setTop (mkF m 41 #[.val (.ref xa), .val (.ref xo), .val (.ref xo)] [(.int (0 : Int32))])) _
    refine own_endN X7 (v := (some (.int (0 : Int32)))) (fun h => by rw [hret] at h; cases h) hlk (by decide) (by decide) ?_ (fun fs hr => retOut X7 hx hret rfl (Or.inl ⟨rfl, Or.inr (Or.inl rfl), _, rfl⟩) (hb hby own_d9_41) hr)
    show Q_own_eqF Z xa xo xp xq xr xs h0 n0 _ T7.heap _
    rw [e7]
    exact ⟨N0, rfl, rfl⟩
  · refine own_go (fun t_ k_ => Jvm.RoadKit.acmp (g := (mkF m 22 #[.val (.ref xa), .val (.ref xo), .val (.ref xo)] [(.ref xq), (.ref xp)])) X4 hx rfl rfl rfl (pc0 := 22) (pc' := 40) (same := false) rfl (hb hby own_d9_22) rfl (decide_eq_false fun q => hc5 (Value.ref.inj q)) (by decide) (by decide) k_) ?_
    show own_Goes p e below (T4.setTop (mkF m 40 #[.val (.ref xa), .val (.ref xo), .val (.ref xo)] [])) _
    refine own_go (fun t_ k_ => XS.iconst X4.here hx rfl (hb hby own_d9_40) k_) ?_
    show own_Goes p e below (T4.setTop (mkF m 41 #[.val (.ref xa), .val (.ref xo), .val (.ref xo)] [(.int (0 : Int32))])) _
    refine own_endN X4 (v := (some (.int (0 : Int32)))) (fun h => by rw [hret] at h; cases h) hlk (by decide) (by decide) ?_ (fun fs hr => retOut X4 hx hret rfl (Or.inl ⟨rfl, Or.inr (Or.inl rfl), _, rfl⟩) (hb hby own_d9_41) hr)
    show Q_own_eqF Z xa xo xp xq xr xs h0 n0 _ T4.heap _
    rw [e4]
    exact ⟨N0, rfl, rfl⟩
theorem own_pd_4 : parseMethodDescriptor "(II)V" = some ⟨[.int, .int], none⟩ := by decide +kernel
abbrev own_m5 : MethodName := ⟨"com/example/breach_or_proof/breachorproof/Location", "<init>", "(II)V"⟩
abbrev own_m6 : MethodName := ⟨"com/example/breach_or_proof/breachorproof/Process$Nil", "<init>", "(Lcom/example/breach_or_proof/breachorproof/Location;)V"⟩
theorem own_pd_7 : parseMethodDescriptor "(I)I" = some ⟨[.int], some .int⟩ := by decide +kernel
abbrev own_m8 : MethodName := ⟨"com/example/breach_or_proof/breachorproof/analysis/PathStepEqualsPinLaw", "idx", "(I)I"⟩
theorem own_pd_9 : parseMethodDescriptor "(I)Lcom/example/breach_or_proof/breachorproof/analysis/PathStep$Branch;" = some ⟨[.int], some (.object "com/example/breach_or_proof/breachorproof/analysis/PathStep$Branch")⟩ := by decide +kernel
abbrev own_m10 : MethodName := ⟨"com/example/breach_or_proof/breachorproof/analysis/PathStepEqualsPinLaw", "branch", "(I)Lcom/example/breach_or_proof/breachorproof/analysis/PathStep$Branch;"⟩
theorem own_pd_11 : parseMethodDescriptor "(Lcom/example/breach_or_proof/breachorproof/Process;Lcom/example/breach_or_proof/breachorproof/analysis/PathStep$Branch;)V" = some ⟨[(.object "com/example/breach_or_proof/breachorproof/Process"), (.object "com/example/breach_or_proof/breachorproof/analysis/PathStep$Branch")], none⟩ := by decide +kernel
abbrev own_m12 : MethodName := ⟨"com/example/breach_or_proof/breachorproof/analysis/PathStep", "<init>", "(Lcom/example/breach_or_proof/breachorproof/Process;Lcom/example/breach_or_proof/breachorproof/analysis/PathStep$Branch;)V"⟩
theorem own_pd_13 : parseMethodDescriptor "(Ljava/lang/Object;)Z" = some ⟨[(.object "java/lang/Object")], some .boolean⟩ := by decide +kernel
abbrev own_m14 : MethodName := ⟨"com/example/breach_or_proof/breachorproof/analysis/PathStep", "equals", "(Ljava/lang/Object;)Z"⟩
theorem own_ef_rm0 (m : MethodId) (x0 : Int32) (x1 : Int32) (x2 : Int32) (x3 : Int32) (x4 : Int32) : entryFrame m #[(.int x0), (.int x1), (.int x2), (.int x3), (.int x4)] maxLocals = mkF m 0 #[.val (.int x0), .val (.int x1), .val (.int x2), .val (.int x3), .val (.int x4), .unset, .unset, .unset, .unset, .unset, .unset, .unset, .unset, .unset, .unset, .unset, .unset, .unset, .unset] [] := by first | (simp [entryFrame, mkF, argsToLocals, Value.category, maxLocals]; done) | rfl
def Q_rm0 (Z : State) (x0 : Int32) (x1 : Int32) (x2 : Int32) (x3 : Int32) (x4 : Int32) (gw0 : Addr) (gw1 : Addr) (gw2 : Addr) (gw3 : Addr) (gw4 : Addr) (h0 : Heap) (n0 : Nat) (v : Option Value) (h : Heap) (L : List Loc) : Prop := Fr n0 L ∧ True ∧ v = some (.int (1 : Int32))
set_option maxRecDepth 65536 in
set_option maxHeartbeats 40000000 in
theorem rm0 (l : Launch) (Z : State) (a0 : Array Value) (hw : ∀ d ∈ tables_1, d.before a0 Z = true) (ws : List Jvm.Cond) (x0 : Int32) (x1 : Int32) (x2 : Int32) (x3 : Int32) (x4 : Int32) (h0 : Heap) (n0 : Nat) (O0 : Old Z n0 h0) (gw0 : Addr) (gw1 : Addr) (gw2 : Addr) (gw3 : Addr) (gw4 : Addr) (G : GG Z gw0 gw1 gw2 gw3 gw4) :
    MetFree l x (head1 (Jvm.Cond.code x code maxLocals ret :: ws) room_1) (fun as_ U_ => as_ = #[(.int x0), (.int x1), (.int x2), (.int x3), (.int x4)] ∧ Z.Warmed39 U_.vm ∧ U_.heap = h0) (fun _ _ _ _ _ => True) (fun _ U_ o_ U2_ => ∃ v_ L_, o_ = .returned v_ ∧ Q_rm0 Z x0 x1 x2 x3 x4 gw0 gw1 gw2 gw3 gw4 h0 n0 v_ U2_.heap L_ ∧ ReturnedEndW U_ o_ U2_ L_ room_1.cells room_1.slots) := by
  refine MetFree.of_bodySF (plainFor_of_name own_pn_com_example_breach_or_proof_breachorproof_analysis_PathStepEqualsPinLaw) hisR ?_
  intro p e s m args below meth c s₁ Bd hml0 hP hK
  obtain ⟨rfl, hZ, hh⟩ := hP
  have hx := Bd.exec
  have hby := Bd.bytes
  have hml : c.maxLocals = 19 := hml0
  have hown : s.vm.findClass "com/example/breach_or_proof/breachorproof/analysis/PathStepEqualsPinLaw" = some m.cls := findClass_of_methodNamed Bd.named
  have hnm := (name_of_methodNamed Bd.named Bd.method).1
  have hlk : meth.locks = false := Bd.notSynchronized
  have hret := Bd.returns
  have X0 : Stand p l e room_1 s m #[(.int x0), (.int x1), (.int x2), (.int x3), (.int x4)] below meth c s₁ [] 0 0 := Stand.of_body Bd
  have e0 : s₁.heap = h0 := by rw [← hh, Bd.state]; rfl
  have N0 := Fr.nil n0
  have z0 : Z.heap.size = n0 := O0.1
  have z1 : n0 ≤ h0.size := z0 ▸ O0.2.1
  have hS0 : s.Since s.vm 0 := (State.WarmedH.refl s).since 0
  have hk0 : 0 ≤ h0.size := Nat.zero_le _
  replace X0 : Stand p l e room_1 (s.setVm s.vm) m #[(.int x0), (.int x1), (.int x2), (.int x3), (.int x4)] below meth c s₁ [] 0 0 := X0
  show own_Goes p e below (s₁.setTop (entryFrame m #[(.int x0), (.int x1), (.int x2), (.int x3), (.int x4)] maxLocals)) (own_PostW s (Q_rm0 Z x0 x1 x2 x3 x4 gw0 gw1 gw2 gw3 gw4 h0 n0) room_1.cells room_1.slots)
  refine own_cast (own_ef_rm0 m x0 x1 x2 x3 x4) ?_
  show own_Goes p e below (s₁.setTop (mkF m 0 #[.val (.int x0), .val (.int x1), .val (.int x2), .val (.int x3), .val (.int x4), .unset, .unset, .unset, .unset, .unset, .unset, .unset, .unset, .unset, .unset, .unset, .unset, .unset, .unset] [])) _
  obtain ⟨G0, G1, G2, G3, G4, G5, G6, G7, G8, G9, G10, G11, G12, G13, G14⟩ := id G
  have ltG1 : gw0 < Z.heap.size := G1.lt
  have ltG4 : gw1 < Z.heap.size := G4.lt
  have ltG7 : gw2 < Z.heap.size := G7.lt
  have ltG10 : gw3 < Z.heap.size := G10.lt
  have ltG13 : gw4 < Z.heap.size := G13.lt
  obtain ⟨T1, h1, X1, e1, E1, A1, D1, -, st1⟩ := newO X0 hx hZ hown (hw _ (List.mem_of_getElem? (i := 0) rfl)) (hw _ (List.mem_of_getElem? (i := 1) rfl)) (hw _ (List.mem_of_getElem? (i := 2) rfl)) e0 (g := (mkF m 0 #[.val (.int x0), .val (.int x1), .val (.int x2), .val (.int x3), .val (.int x4), .unset, .unset, .unset, .unset, .unset, .unset, .unset, .unset, .unset, .unset, .unset, .unset, .unset, .unset] [])) rfl (hb hby at_0) (by decide) (by decide)
  obtain ⟨b1, g1⟩ : ∃ z, z = h0.size := ⟨_, rfl⟩
  rw [← g1] at A1 D1 st1
  refine own_go st1 ?_
  have O2 := O0.ext E1
  have sz3 : h0.size ≤ h1.size := E1.1
  have hk4 := Nat.le_trans hk0 E1.1
  have l1 : b1 < h1.size := A1.lt
  have F1_line : Fld Z h1 b1 "com/example/breach_or_proof/breachorproof/Location" "line" "I" (.int (0 : Int32)) := D1 (Or.inr (hw _ (List.mem_of_getElem? (i := 10) rfl))) (ty := .int) (by decide)
  have F1_column : Fld Z h1 b1 "com/example/breach_or_proof/breachorproof/Location" "column" "I" (.int (0 : Int32)) := D1 (Or.inr (hw _ (List.mem_of_getElem? (i := 12) rfl))) (ty := .int) (by decide)
  show own_Goes p e below (T1.setTop (mkF m 3 #[.val (.int x0), .val (.int x1), .val (.int x2), .val (.int x3), .val (.int x4), .unset, .unset, .unset, .unset, .unset, .unset, .unset, .unset, .unset, .unset, .unset, .unset, .unset, .unset] [(.ref b1)])) _
  refine own_go (fun t_ k_ => XS.dup X1.here hx rfl (hb hby at_3) rfl rfl k_) ?_
  show own_Goes p e below (T1.setTop (mkF m 4 #[.val (.int x0), .val (.int x1), .val (.int x2), .val (.int x3), .val (.int x4), .unset, .unset, .unset, .unset, .unset, .unset, .unset, .unset, .unset, .unset, .unset, .unset, .unset, .unset] [(.ref b1), (.ref b1)])) _
  refine own_go (fun t_ k_ => XS.iconst X1.here hx rfl (hb hby at_4) k_) ?_
  show own_Goes p e below (T1.setTop (mkF m 5 #[.val (.int x0), .val (.int x1), .val (.int x2), .val (.int x3), .val (.int x4), .unset, .unset, .unset, .unset, .unset, .unset, .unset, .unset, .unset, .unset, .unset, .unset, .unset, .unset] [(.int (1 : Int32)), (.ref b1), (.ref b1)])) _
  refine own_go (fun t_ k_ => XS.iconst X1.here hx rfl (hb hby at_5) k_) ?_
  show own_Goes p e below (T1.setTop (mkF m 6 #[.val (.int x0), .val (.int x1), .val (.int x2), .val (.int x3), .val (.int x4), .unset, .unset, .unset, .unset, .unset, .unset, .unset, .unset, .unset, .unset, .unset, .unset, .unset, .unset] [(.int (1 : Int32)), (.int (1 : Int32)), (.ref b1), (.ref b1)])) _
  obtain ⟨_, _, ⟨T5, L5, k5, n5⟩, -, X5, ⟨Lc5, hQ5, l5, y5, z5⟩, st5⟩ := X1.specialBack hx (y := own_m5) rfl hown (mvT hZ (hw _ (List.mem_of_getElem? (i := 3) rfl))) (mvT hZ (hw _ (List.mem_of_getElem? (i := 4) rfl))) (mvT hZ (hw _ (List.mem_of_getElem? (i := 5) rfl))) (by decide) (backOf (W := 1) (own_locInit l Z a0 hw [] b1 h1 n0 O2 A1 F1_line F1_column (show n0 ≤ b1 by first | assumption | omega | decide)) hZ (hw _ (List.mem_of_getElem? (i := 5) rfl)) (hw _ (List.mem_of_getElem? (i := 2) rfl)) (by decide) (by decide)) (g := (mkF m 6 #[.val (.int x0), .val (.int x1), .val (.int x2), .val (.int x3), .val (.int x4), .unset, .unset, .unset, .unset, .unset, .unset, .unset, .unset, .unset, .unset, .unset, .unset, .unset, .unset] [(.int (1 : Int32)), (.int (1 : Int32)), (.ref b1), (.ref b1)])) rfl (by rw [hml]; rfl) (Steps.refl _) (a := b1) (argsL := [(.int (1 : Int32)), (.int (1 : Int32))]) (rest := [(.ref b1)]) (lenOf own_pd_4 rfl) rfl (by show 2 * 0 + _ ≤ _; exact Nat.le_of_eq rfl) (hb hby at_6) (fun _ _ => ⟨rfl, e1, (by decide : 1 + 0 ≤ _), (by decide : 2 + 0 ≤ _)⟩)
  dsimp only [Pt.U, Pt.locs, Pt.cells, Pt.slots] at X5 l5 y5 z5 st5 hQ5
  subst l5 y5 z5
  obtain ⟨h5, e5⟩ : ∃ z, T5.heap = z := ⟨_, rfl⟩
  rw [e5] at hQ5
  obtain ⟨Nc5, Kc5, rfl⟩ := hQ5
  have N5 := Fr.app N0 Nc5
  have O6 := O2.keep Kc5 (allS (show n0 ≤ b1 by omega) all0)
  have sz7 : h1.size ≤ h5.size := Kc5.1
  have hk8 := Nat.le_trans hk4 Kc5.1
  refine own_goS st5 ?_
  show own_Goes p e below (T5.setTop (mkF m 9 #[.val (.int x0), .val (.int x1), .val (.int x2), .val (.int x3), .val (.int x4), .unset, .unset, .unset, .unset, .unset, .unset, .unset, .unset, .unset, .unset, .unset, .unset, .unset, .unset] [(.ref b1)])) _
  refine own_go (fun t_ k_ => XS.astore X5.here hx rfl (hb hby at_9) rfl rfl (l' := #[.val (.int x0), .val (.int x1), .val (.int x2), .val (.int x3), .val (.int x4), .val (.ref b1), .unset, .unset, .unset, .unset, .unset, .unset, .unset, .unset, .unset, .unset, .unset, .unset, .unset]) rfl k_) ?_
  show own_Goes p e below (T5.setTop (mkF m 11 #[.val (.int x0), .val (.int x1), .val (.int x2), .val (.int x3), .val (.int x4), .val (.ref b1), .unset, .unset, .unset, .unset, .unset, .unset, .unset, .unset, .unset, .unset, .unset, .unset, .unset] [])) _
  obtain ⟨T9, h9, X9, e9, E9, A9, D9, -, st9⟩ := newO X5 hx hZ hown (hw _ (List.mem_of_getElem? (i := 13) rfl)) (hw _ (List.mem_of_getElem? (i := 14) rfl)) (hw _ (List.mem_of_getElem? (i := 15) rfl)) e5 (g := (mkF m 11 #[.val (.int x0), .val (.int x1), .val (.int x2), .val (.int x3), .val (.int x4), .val (.ref b1), .unset, .unset, .unset, .unset, .unset, .unset, .unset, .unset, .unset, .unset, .unset, .unset, .unset] [])) rfl (hb hby at_11) (by decide) (by decide)
  obtain ⟨b9, g9⟩ : ∃ z, z = h5.size := ⟨_, rfl⟩
  rw [← g9] at A9 D9 st9
  refine own_go st9 ?_
  have O10 := O6.ext E9
  have sz11 : h5.size ≤ h9.size := E9.1
  have hk12 := Nat.le_trans hk8 E9.1
  have l9 : b9 < h9.size := A9.lt
  have F9_location : Fld Z h9 b9 "com/example/breach_or_proof/breachorproof/Process" "location" "Lcom/example/breach_or_proof/breachorproof/Location;" .null := D9 (Or.inr (hw _ (List.mem_of_getElem? (i := 40) rfl))) (ty := (.object "com/example/breach_or_proof/breachorproof/Location")) (by decide)
  show own_Goes p e below (T9.setTop (mkF m 14 #[.val (.int x0), .val (.int x1), .val (.int x2), .val (.int x3), .val (.int x4), .val (.ref b1), .unset, .unset, .unset, .unset, .unset, .unset, .unset, .unset, .unset, .unset, .unset, .unset, .unset] [(.ref b9)])) _
  refine own_go (fun t_ k_ => XS.dup X9.here hx rfl (hb hby at_14) rfl rfl k_) ?_
  show own_Goes p e below (T9.setTop (mkF m 15 #[.val (.int x0), .val (.int x1), .val (.int x2), .val (.int x3), .val (.int x4), .val (.ref b1), .unset, .unset, .unset, .unset, .unset, .unset, .unset, .unset, .unset, .unset, .unset, .unset, .unset] [(.ref b9), (.ref b9)])) _
  refine own_go (fun t_ k_ => XS.aload X9.here hx rfl (hb hby at_15) rfl rfl k_) ?_
  show own_Goes p e below (T9.setTop (mkF m 17 #[.val (.int x0), .val (.int x1), .val (.int x2), .val (.int x3), .val (.int x4), .val (.ref b1), .unset, .unset, .unset, .unset, .unset, .unset, .unset, .unset, .unset, .unset, .unset, .unset, .unset] [(.ref b1), (.ref b9), (.ref b9)])) _
  have f13 := ((A1.keep Kc5).ext E9)
  obtain ⟨_, _, ⟨T14, L14, k14, n14⟩, -, X14, hS14, gr14, ⟨Lc14, hQ14, l14, y14, z14⟩, st14⟩ := X9.specialBackS hx (y := own_m6) rfl hown (mvT hZ (hw _ (List.mem_of_getElem? (i := 16) rfl))) (mvT hZ (hw _ (List.mem_of_getElem? (i := 17) rfl))) (mvT hZ (hw _ (List.mem_of_getElem? (i := 18) rfl))) (by decide) (backOfS (W := 1) (own_nilInit l Z a0 hw [] b9 b1 h9 n0 O10 A9 F9_location f13 (show n0 ≤ b9 by first | assumption | omega | decide)) hZ (hw _ (List.mem_of_getElem? (i := 18) rfl)) (hw _ (List.mem_of_getElem? (i := 15) rfl)) (by decide) (by decide)) (g := (mkF m 17 #[.val (.int x0), .val (.int x1), .val (.int x2), .val (.int x3), .val (.int x4), .val (.ref b1), .unset, .unset, .unset, .unset, .unset, .unset, .unset, .unset, .unset, .unset, .unset, .unset, .unset] [(.ref b1), (.ref b9), (.ref b9)])) rfl (by rw [hml]; rfl) (Steps.refl _) (a := b9) (argsL := [(.ref b1)]) (rest := [(.ref b9)]) (lenOf own_pd_2 rfl) rfl (by show 2 * 0 + _ ≤ _; exact Nat.le_of_eq rfl) (hb hby at_17) (fun _ _ => ⟨rfl, e9, (by decide : 2 + 2 ≤ _), (by decide : 3 + 36 ≤ _)⟩)
  dsimp only [Pt.U, Pt.locs, Pt.cells, Pt.slots] at X14 l14 y14 z14 st14 hQ14 hS14 gr14
  subst l14 y14 z14
  obtain ⟨h14, e14⟩ : ∃ z, T14.heap = z := ⟨_, rfl⟩
  rw [e14] at hQ14 hS14 gr14
  obtain ⟨Nc14, Kc14, rfl⟩ := hQ14
  obtain ⟨X14, hS14, hZ14, hown14⟩ := rebS (own := "com/example/breach_or_proof/breachorproof/analysis/PathStepEqualsPinLaw") hS0 (show _ ≤ T9.heap.size by rw [e9]; exact hk12) X14 hS14 gr14 hZ hown
  have hk14 : h14.size ≤ h14.size := Nat.le_refl _
  have N14 := Fr.app N5 Nc14
  have O15 := O10.keep Kc14 (allS (show n0 ≤ b9 by omega) all0)
  have sz16 : h9.size ≤ h14.size := Kc14.1
  refine own_goS st14 ?_
  show own_Goes p e below (T14.setTop (mkF m 20 #[.val (.int x0), .val (.int x1), .val (.int x2), .val (.int x3), .val (.int x4), .val (.ref b1), .unset, .unset, .unset, .unset, .unset, .unset, .unset, .unset, .unset, .unset, .unset, .unset, .unset] [(.ref b9)])) _
  refine own_go (fun t_ k_ => XS.astore X14.here hx rfl (hb hby at_20) rfl rfl (l' := #[.val (.int x0), .val (.int x1), .val (.int x2), .val (.int x3), .val (.int x4), .val (.ref b1), .val (.ref b9), .unset, .unset, .unset, .unset, .unset, .unset, .unset, .unset, .unset, .unset, .unset, .unset]) rfl k_) ?_
  show own_Goes p e below (T14.setTop (mkF m 22 #[.val (.int x0), .val (.int x1), .val (.int x2), .val (.int x3), .val (.int x4), .val (.ref b1), .val (.ref b9), .unset, .unset, .unset, .unset, .unset, .unset, .unset, .unset, .unset, .unset, .unset, .unset] [])) _
  obtain ⟨T17, h17, X17, e17, E17, A17, D17, -, st17⟩ := newO X14 hx hZ14 hown14 (hw _ (List.mem_of_getElem? (i := 13) rfl)) (hw _ (List.mem_of_getElem? (i := 14) rfl)) (hw _ (List.mem_of_getElem? (i := 15) rfl)) e14 (g := (mkF m 22 #[.val (.int x0), .val (.int x1), .val (.int x2), .val (.int x3), .val (.int x4), .val (.ref b1), .val (.ref b9), .unset, .unset, .unset, .unset, .unset, .unset, .unset, .unset, .unset, .unset, .unset, .unset] [])) rfl (hb hby at_22) (by decide) (by decide)
  obtain ⟨b17, g17⟩ : ∃ z, z = h14.size := ⟨_, rfl⟩
  rw [← g17] at A17 D17 st17
  refine own_go st17 ?_
  have O18 := O15.ext E17
  have sz19 : h14.size ≤ h17.size := E17.1
  have hk20 := Nat.le_trans hk14 E17.1
  have l17 : b17 < h17.size := A17.lt
  have F17_location : Fld Z h17 b17 "com/example/breach_or_proof/breachorproof/Process" "location" "Lcom/example/breach_or_proof/breachorproof/Location;" .null := D17 (Or.inr (hw _ (List.mem_of_getElem? (i := 40) rfl))) (ty := (.object "com/example/breach_or_proof/breachorproof/Location")) (by decide)
  show own_Goes p e below (T17.setTop (mkF m 25 #[.val (.int x0), .val (.int x1), .val (.int x2), .val (.int x3), .val (.int x4), .val (.ref b1), .val (.ref b9), .unset, .unset, .unset, .unset, .unset, .unset, .unset, .unset, .unset, .unset, .unset, .unset] [(.ref b17)])) _
  refine own_go (fun t_ k_ => XS.dup X17.here hx rfl (hb hby at_25) rfl rfl k_) ?_
  show own_Goes p e below (T17.setTop (mkF m 26 #[.val (.int x0), .val (.int x1), .val (.int x2), .val (.int x3), .val (.int x4), .val (.ref b1), .val (.ref b9), .unset, .unset, .unset, .unset, .unset, .unset, .unset, .unset, .unset, .unset, .unset, .unset] [(.ref b17), (.ref b17)])) _
  refine own_go (fun t_ k_ => XS.aload X17.here hx rfl (hb hby at_26) rfl rfl k_) ?_
  show own_Goes p e below (T17.setTop (mkF m 28 #[.val (.int x0), .val (.int x1), .val (.int x2), .val (.int x3), .val (.int x4), .val (.ref b1), .val (.ref b9), .unset, .unset, .unset, .unset, .unset, .unset, .unset, .unset, .unset, .unset, .unset, .unset] [(.ref b1), (.ref b17), (.ref b17)])) _
  have f21 := ((f13.keep Kc14).ext E17)
  obtain ⟨_, _, ⟨T22, L22, k22, n22⟩, -, X22, hS22, gr22, ⟨Lc22, hQ22, l22, y22, z22⟩, st22⟩ := X17.specialBackS hx (y := own_m6) rfl hown14 (mvT hZ14 (hw _ (List.mem_of_getElem? (i := 16) rfl))) (mvT hZ14 (hw _ (List.mem_of_getElem? (i := 17) rfl))) (mvT hZ14 (hw _ (List.mem_of_getElem? (i := 18) rfl))) (by decide) (backOfS (W := 1) (own_nilInit l Z a0 hw [] b17 b1 h17 n0 O18 A17 F17_location f21 (show n0 ≤ b17 by first | assumption | omega | decide)) hZ14 (hw _ (List.mem_of_getElem? (i := 18) rfl)) (hw _ (List.mem_of_getElem? (i := 15) rfl)) (by decide) (by decide)) (g := (mkF m 28 #[.val (.int x0), .val (.int x1), .val (.int x2), .val (.int x3), .val (.int x4), .val (.ref b1), .val (.ref b9), .unset, .unset, .unset, .unset, .unset, .unset, .unset, .unset, .unset, .unset, .unset, .unset] [(.ref b1), (.ref b17), (.ref b17)])) rfl (by rw [hml]; rfl) (Steps.refl _) (a := b17) (argsL := [(.ref b1)]) (rest := [(.ref b17)]) (lenOf own_pd_2 rfl) rfl (by show 2 * 0 + _ ≤ _; exact Nat.le_of_eq rfl) (hb hby at_28) (fun _ _ => ⟨rfl, e17, (by decide : 5 + 2 ≤ _), (by decide : 40 + 36 ≤ _)⟩)
  dsimp only [Pt.U, Pt.locs, Pt.cells, Pt.slots] at X22 l22 y22 z22 st22 hQ22 hS22 gr22
  subst l22 y22 z22
  obtain ⟨h22, e22⟩ : ∃ z, T22.heap = z := ⟨_, rfl⟩
  rw [e22] at hQ22 hS22 gr22
  obtain ⟨Nc22, Kc22, rfl⟩ := hQ22
  obtain ⟨X22, hS22, hZ22, hown22⟩ := rebS (own := "com/example/breach_or_proof/breachorproof/analysis/PathStepEqualsPinLaw") hS14 (show _ ≤ T17.heap.size by rw [e17]; exact hk20) X22 hS22 gr22 hZ14 hown14
  have hk22 : h22.size ≤ h22.size := Nat.le_refl _
  have N22 := Fr.app N14 Nc22
  have O23 := O18.keep Kc22 (allS (show n0 ≤ b17 by omega) all0)
  have sz24 : h17.size ≤ h22.size := Kc22.1
  refine own_goS st22 ?_
  show own_Goes p e below (T22.setTop (mkF m 31 #[.val (.int x0), .val (.int x1), .val (.int x2), .val (.int x3), .val (.int x4), .val (.ref b1), .val (.ref b9), .unset, .unset, .unset, .unset, .unset, .unset, .unset, .unset, .unset, .unset, .unset, .unset] [(.ref b17)])) _
  refine own_go (fun t_ k_ => XS.astore X22.here hx rfl (hb hby at_31) rfl rfl (l' := #[.val (.int x0), .val (.int x1), .val (.int x2), .val (.int x3), .val (.int x4), .val (.ref b1), .val (.ref b9), .val (.ref b17), .unset, .unset, .unset, .unset, .unset, .unset, .unset, .unset, .unset, .unset, .unset]) rfl k_) ?_
  show own_Goes p e below (T22.setTop (mkF m 33 #[.val (.int x0), .val (.int x1), .val (.int x2), .val (.int x3), .val (.int x4), .val (.ref b1), .val (.ref b9), .val (.ref b17), .unset, .unset, .unset, .unset, .unset, .unset, .unset, .unset, .unset, .unset, .unset] [])) _
  refine own_go (fun t_ k_ => XS.iloadN X22.here hx rfl (hb hby at_33) rfl k_) ?_
  show own_Goes p e below (T22.setTop (mkF m 34 #[.val (.int x0), .val (.int x1), .val (.int x2), .val (.int x3), .val (.int x4), .val (.ref b1), .val (.ref b9), .val (.ref b17), .unset, .unset, .unset, .unset, .unset, .unset, .unset, .unset, .unset, .unset, .unset] [(.int x1)])) _
  obtain ⟨_, _, ⟨T25, L25, k25, n25⟩, -, X25, ⟨Lc25, hQ25, l25, y25, z25⟩, st25⟩ := Jvm.LawKit.callS X22 hx (y := own_m8) hown22 (mvT hZ22 (hw _ (List.mem_of_getElem? (i := 41) rfl))) (mvT hZ22 (hw _ (List.mem_of_getElem? (i := 42) rfl))) (mvT hZ22 (hw _ (List.mem_of_getElem? (i := 43) rfl))) (mvT hZ22 (hw _ (List.mem_of_getElem? (i := 44) rfl))) (by decide) (backOf (W := 0) (own_idx l Z a0 hw [] x1 h22 n0 O23) hZ22 (hw _ (List.mem_of_getElem? (i := 44) rfl)) (hw _ (List.mem_of_getElem? (i := 43) rfl)) (by decide) (by decide)) (g := (mkF m 34 #[.val (.int x0), .val (.int x1), .val (.int x2), .val (.int x3), .val (.int x4), .val (.ref b1), .val (.ref b9), .val (.ref b17), .unset, .unset, .unset, .unset, .unset, .unset, .unset, .unset, .unset, .unset, .unset] [(.int x1)])) rfl (by rw [hml]; rfl) (argsL := [(.int x1)]) (rest := []) (lenOf own_pd_7 rfl) rfl (by show 2 * 0 + _ ≤ _; exact Nat.le_of_eq rfl) (hb hby at_34) (fun _ _ => ⟨rfl, e22, (by decide : 7 + 0 ≤ _), (by decide : 76 + 0 ≤ _)⟩)
  dsimp only [Pt.U, Pt.locs, Pt.cells, Pt.slots] at X25 l25 y25 z25 st25 hQ25
  subst l25 y25 z25
  obtain ⟨Nc25, e25, rfl⟩ := hQ25
  have N25 := Fr.app N22 Nc25
  refine own_go st25 ?_
  show own_Goes p e below (T25.setTop (mkF m 37 #[.val (.int x0), .val (.int x1), .val (.int x2), .val (.int x3), .val (.int x4), .val (.ref b1), .val (.ref b9), .val (.ref b17), .unset, .unset, .unset, .unset, .unset, .unset, .unset, .unset, .unset, .unset, .unset] [(.int ((x1 &&& (2147483647 : Int32)) % (5 : Int32)))])) _
  refine own_go (fun t_ k_ => XS.istore X25.here hx rfl (hb hby at_37) rfl (l' := #[.val (.int x0), .val (.int x1), .val (.int x2), .val (.int x3), .val (.int x4), .val (.ref b1), .val (.ref b9), .val (.ref b17), .val (.int ((x1 &&& (2147483647 : Int32)) % (5 : Int32))), .unset, .unset, .unset, .unset, .unset, .unset, .unset, .unset, .unset, .unset]) rfl k_) ?_
  show own_Goes p e below (T25.setTop (mkF m 39 #[.val (.int x0), .val (.int x1), .val (.int x2), .val (.int x3), .val (.int x4), .val (.ref b1), .val (.ref b9), .val (.ref b17), .val (.int ((x1 &&& (2147483647 : Int32)) % (5 : Int32))), .unset, .unset, .unset, .unset, .unset, .unset, .unset, .unset, .unset, .unset] [])) _
  refine own_go (fun t_ k_ => XS.iloadN X25.here hx rfl (hb hby at_39) rfl k_) ?_
  show own_Goes p e below (T25.setTop (mkF m 40 #[.val (.int x0), .val (.int x1), .val (.int x2), .val (.int x3), .val (.int x4), .val (.ref b1), .val (.ref b9), .val (.ref b17), .val (.int ((x1 &&& (2147483647 : Int32)) % (5 : Int32))), .unset, .unset, .unset, .unset, .unset, .unset, .unset, .unset, .unset, .unset] [(.int x3)])) _
  obtain ⟨_, _, ⟨T26, L26, k26, n26⟩, -, X26, ⟨Lc26, hQ26, l26, y26, z26⟩, st26⟩ := Jvm.LawKit.callS X25 hx (y := own_m8) hown22 (mvT hZ22 (hw _ (List.mem_of_getElem? (i := 41) rfl))) (mvT hZ22 (hw _ (List.mem_of_getElem? (i := 42) rfl))) (mvT hZ22 (hw _ (List.mem_of_getElem? (i := 43) rfl))) (mvT hZ22 (hw _ (List.mem_of_getElem? (i := 44) rfl))) (by decide) (backOf (W := 0) (own_idx l Z a0 hw [] x3 h22 n0 O23) hZ22 (hw _ (List.mem_of_getElem? (i := 44) rfl)) (hw _ (List.mem_of_getElem? (i := 43) rfl)) (by decide) (by decide)) (g := (mkF m 40 #[.val (.int x0), .val (.int x1), .val (.int x2), .val (.int x3), .val (.int x4), .val (.ref b1), .val (.ref b9), .val (.ref b17), .val (.int ((x1 &&& (2147483647 : Int32)) % (5 : Int32))), .unset, .unset, .unset, .unset, .unset, .unset, .unset, .unset, .unset, .unset] [(.int x3)])) rfl (by rw [hml]; rfl) (argsL := [(.int x3)]) (rest := []) (lenOf own_pd_7 rfl) rfl (by show 2 * 0 + _ ≤ _; exact Nat.le_of_eq rfl) (hb hby at_40) (fun _ _ => ⟨rfl, e25, (by decide : 7 + 0 ≤ _), (by decide : 76 + 0 ≤ _)⟩)
  dsimp only [Pt.U, Pt.locs, Pt.cells, Pt.slots] at X26 l26 y26 z26 st26 hQ26
  subst l26 y26 z26
  obtain ⟨Nc26, e26, rfl⟩ := hQ26
  have N26 := Fr.app N25 Nc26
  refine own_go st26 ?_
  show own_Goes p e below (T26.setTop (mkF m 43 #[.val (.int x0), .val (.int x1), .val (.int x2), .val (.int x3), .val (.int x4), .val (.ref b1), .val (.ref b9), .val (.ref b17), .val (.int ((x1 &&& (2147483647 : Int32)) % (5 : Int32))), .unset, .unset, .unset, .unset, .unset, .unset, .unset, .unset, .unset, .unset] [(.int ((x3 &&& (2147483647 : Int32)) % (5 : Int32)))])) _
  refine own_go (fun t_ k_ => XS.istore X26.here hx rfl (hb hby at_43) rfl (l' := #[.val (.int x0), .val (.int x1), .val (.int x2), .val (.int x3), .val (.int x4), .val (.ref b1), .val (.ref b9), .val (.ref b17), .val (.int ((x1 &&& (2147483647 : Int32)) % (5 : Int32))), .val (.int ((x3 &&& (2147483647 : Int32)) % (5 : Int32))), .unset, .unset, .unset, .unset, .unset, .unset, .unset, .unset, .unset]) rfl k_) ?_
  show own_Goes p e below (T26.setTop (mkF m 45 #[.val (.int x0), .val (.int x1), .val (.int x2), .val (.int x3), .val (.int x4), .val (.ref b1), .val (.ref b9), .val (.ref b17), .val (.int ((x1 &&& (2147483647 : Int32)) % (5 : Int32))), .val (.int ((x3 &&& (2147483647 : Int32)) % (5 : Int32))), .unset, .unset, .unset, .unset, .unset, .unset, .unset, .unset, .unset] [])) _
  refine own_go (fun t_ k_ => XS.iloadN X26.here hx rfl (hb hby at_45) rfl k_) ?_
  show own_Goes p e below (T26.setTop (mkF m 46 #[.val (.int x0), .val (.int x1), .val (.int x2), .val (.int x3), .val (.int x4), .val (.ref b1), .val (.ref b9), .val (.ref b17), .val (.int ((x1 &&& (2147483647 : Int32)) % (5 : Int32))), .val (.int ((x3 &&& (2147483647 : Int32)) % (5 : Int32))), .unset, .unset, .unset, .unset, .unset, .unset, .unset, .unset, .unset] [(.int x0)])) _
  refine own_go (fun t_ k_ => XS.iconst X26.here hx rfl (hb hby at_46) k_) ?_
  show own_Goes p e below (T26.setTop (mkF m 47 #[.val (.int x0), .val (.int x1), .val (.int x2), .val (.int x3), .val (.int x4), .val (.ref b1), .val (.ref b9), .val (.ref b17), .val (.int ((x1 &&& (2147483647 : Int32)) % (5 : Int32))), .val (.int ((x3 &&& (2147483647 : Int32)) % (5 : Int32))), .unset, .unset, .unset, .unset, .unset, .unset, .unset, .unset, .unset] [(.int (1 : Int32)), (.int x0)])) _
  refine own_go (fun t_ k_ => XS.iand X26.here hx rfl (hb hby at_47) rfl k_) ?_
  show own_Goes p e below (T26.setTop (mkF m 48 #[.val (.int x0), .val (.int x1), .val (.int x2), .val (.int x3), .val (.int x4), .val (.ref b1), .val (.ref b9), .val (.ref b17), .val (.int ((x1 &&& (2147483647 : Int32)) % (5 : Int32))), .val (.int ((x3 &&& (2147483647 : Int32)) % (5 : Int32))), .unset, .unset, .unset, .unset, .unset, .unset, .unset, .unset, .unset] [(.int (x0 &&& (1 : Int32)))])) _
  by_cases hc27 : (x0 &&& (1 : Int32)) = (0 : Int32)
  · refine own_go (fun t_ k_ => XS.ifNo X26.here hx rfl (hb hby at_48) rfl ((if0 _ _).trans (teq hc27).2) k_) ?_
    show own_Goes p e below (T26.setTop (mkF m 51 #[.val (.int x0), .val (.int x1), .val (.int x2), .val (.int x3), .val (.int x4), .val (.ref b1), .val (.ref b9), .val (.ref b17), .val (.int ((x1 &&& (2147483647 : Int32)) % (5 : Int32))), .val (.int ((x3 &&& (2147483647 : Int32)) % (5 : Int32))), .unset, .unset, .unset, .unset, .unset, .unset, .unset, .unset, .unset] [])) _
    refine own_go (fun t_ k_ => XS.iconst X26.here hx rfl (hb hby at_51) k_) ?_
    show own_Goes p e below (T26.setTop (mkF m 52 #[.val (.int x0), .val (.int x1), .val (.int x2), .val (.int x3), .val (.int x4), .val (.ref b1), .val (.ref b9), .val (.ref b17), .val (.int ((x1 &&& (2147483647 : Int32)) % (5 : Int32))), .val (.int ((x3 &&& (2147483647 : Int32)) % (5 : Int32))), .unset, .unset, .unset, .unset, .unset, .unset, .unset, .unset, .unset] [(.int (1 : Int32))])) _
    refine own_go (fun t_ k_ => XS.goto X26.here hx rfl (pc0 := 52) (pc' := 56) rfl (hb hby at_52) (by decide) (by decide) k_) ?_
    show own_Goes p e below (T26.setTop (mkF m 56 #[.val (.int x0), .val (.int x1), .val (.int x2), .val (.int x3), .val (.int x4), .val (.ref b1), .val (.ref b9), .val (.ref b17), .val (.int ((x1 &&& (2147483647 : Int32)) % (5 : Int32))), .val (.int ((x3 &&& (2147483647 : Int32)) % (5 : Int32))), .unset, .unset, .unset, .unset, .unset, .unset, .unset, .unset, .unset] [(.int (1 : Int32))])) _
    refine own_go (fun t_ k_ => XS.istore X26.here hx rfl (hb hby at_56) rfl (l' := #[.val (.int x0), .val (.int x1), .val (.int x2), .val (.int x3), .val (.int x4), .val (.ref b1), .val (.ref b9), .val (.ref b17), .val (.int ((x1 &&& (2147483647 : Int32)) % (5 : Int32))), .val (.int ((x3 &&& (2147483647 : Int32)) % (5 : Int32))), .val (.int (1 : Int32)), .unset, .unset, .unset, .unset, .unset, .unset, .unset, .unset]) rfl k_) ?_
    show own_Goes p e below (T26.setTop (mkF m 58 #[.val (.int x0), .val (.int x1), .val (.int x2), .val (.int x3), .val (.int x4), .val (.ref b1), .val (.ref b9), .val (.ref b17), .val (.int ((x1 &&& (2147483647 : Int32)) % (5 : Int32))), .val (.int ((x3 &&& (2147483647 : Int32)) % (5 : Int32))), .val (.int (1 : Int32)), .unset, .unset, .unset, .unset, .unset, .unset, .unset, .unset] [])) _
    refine own_go (fun t_ k_ => XS.iloadN X26.here hx rfl (hb hby at_58) rfl k_) ?_
    show own_Goes p e below (T26.setTop (mkF m 59 #[.val (.int x0), .val (.int x1), .val (.int x2), .val (.int x3), .val (.int x4), .val (.ref b1), .val (.ref b9), .val (.ref b17), .val (.int ((x1 &&& (2147483647 : Int32)) % (5 : Int32))), .val (.int ((x3 &&& (2147483647 : Int32)) % (5 : Int32))), .val (.int (1 : Int32)), .unset, .unset, .unset, .unset, .unset, .unset, .unset, .unset] [(.int x2)])) _
    refine own_go (fun t_ k_ => XS.iconst X26.here hx rfl (hb hby at_59) k_) ?_
    show own_Goes p e below (T26.setTop (mkF m 60 #[.val (.int x0), .val (.int x1), .val (.int x2), .val (.int x3), .val (.int x4), .val (.ref b1), .val (.ref b9), .val (.ref b17), .val (.int ((x1 &&& (2147483647 : Int32)) % (5 : Int32))), .val (.int ((x3 &&& (2147483647 : Int32)) % (5 : Int32))), .val (.int (1 : Int32)), .unset, .unset, .unset, .unset, .unset, .unset, .unset, .unset] [(.int (1 : Int32)), (.int x2)])) _
    refine own_go (fun t_ k_ => XS.iand X26.here hx rfl (hb hby at_60) rfl k_) ?_
    show own_Goes p e below (T26.setTop (mkF m 61 #[.val (.int x0), .val (.int x1), .val (.int x2), .val (.int x3), .val (.int x4), .val (.ref b1), .val (.ref b9), .val (.ref b17), .val (.int ((x1 &&& (2147483647 : Int32)) % (5 : Int32))), .val (.int ((x3 &&& (2147483647 : Int32)) % (5 : Int32))), .val (.int (1 : Int32)), .unset, .unset, .unset, .unset, .unset, .unset, .unset, .unset] [(.int (x2 &&& (1 : Int32)))])) _
    by_cases hc28 : (x2 &&& (1 : Int32)) = (0 : Int32)
    · refine own_go (fun t_ k_ => XS.ifNo X26.here hx rfl (hb hby at_61) rfl ((if0 _ _).trans (teq hc28).2) k_) ?_
      show own_Goes p e below (T26.setTop (mkF m 64 #[.val (.int x0), .val (.int x1), .val (.int x2), .val (.int x3), .val (.int x4), .val (.ref b1), .val (.ref b9), .val (.ref b17), .val (.int ((x1 &&& (2147483647 : Int32)) % (5 : Int32))), .val (.int ((x3 &&& (2147483647 : Int32)) % (5 : Int32))), .val (.int (1 : Int32)), .unset, .unset, .unset, .unset, .unset, .unset, .unset, .unset] [])) _
      refine own_go (fun t_ k_ => XS.iconst X26.here hx rfl (hb hby at_64) k_) ?_
      show own_Goes p e below (T26.setTop (mkF m 65 #[.val (.int x0), .val (.int x1), .val (.int x2), .val (.int x3), .val (.int x4), .val (.ref b1), .val (.ref b9), .val (.ref b17), .val (.int ((x1 &&& (2147483647 : Int32)) % (5 : Int32))), .val (.int ((x3 &&& (2147483647 : Int32)) % (5 : Int32))), .val (.int (1 : Int32)), .unset, .unset, .unset, .unset, .unset, .unset, .unset, .unset] [(.int (1 : Int32))])) _
      refine own_go (fun t_ k_ => XS.goto X26.here hx rfl (pc0 := 65) (pc' := 69) rfl (hb hby at_65) (by decide) (by decide) k_) ?_
      show own_Goes p e below (T26.setTop (mkF m 69 #[.val (.int x0), .val (.int x1), .val (.int x2), .val (.int x3), .val (.int x4), .val (.ref b1), .val (.ref b9), .val (.ref b17), .val (.int ((x1 &&& (2147483647 : Int32)) % (5 : Int32))), .val (.int ((x3 &&& (2147483647 : Int32)) % (5 : Int32))), .val (.int (1 : Int32)), .unset, .unset, .unset, .unset, .unset, .unset, .unset, .unset] [(.int (1 : Int32))])) _
      refine own_go (fun t_ k_ => XS.istore X26.here hx rfl (hb hby at_69) rfl (l' := #[.val (.int x0), .val (.int x1), .val (.int x2), .val (.int x3), .val (.int x4), .val (.ref b1), .val (.ref b9), .val (.ref b17), .val (.int ((x1 &&& (2147483647 : Int32)) % (5 : Int32))), .val (.int ((x3 &&& (2147483647 : Int32)) % (5 : Int32))), .val (.int (1 : Int32)), .val (.int (1 : Int32)), .unset, .unset, .unset, .unset, .unset, .unset, .unset]) rfl k_) ?_
      show own_Goes p e below (T26.setTop (mkF m 71 #[.val (.int x0), .val (.int x1), .val (.int x2), .val (.int x3), .val (.int x4), .val (.ref b1), .val (.ref b9), .val (.ref b17), .val (.int ((x1 &&& (2147483647 : Int32)) % (5 : Int32))), .val (.int ((x3 &&& (2147483647 : Int32)) % (5 : Int32))), .val (.int (1 : Int32)), .val (.int (1 : Int32)), .unset, .unset, .unset, .unset, .unset, .unset, .unset] [])) _
      obtain ⟨T29, h29, X29, e29, E29, A29, D29, -, st29⟩ := newO X26 hx hZ22 hown22 (hw _ (List.mem_of_getElem? (i := 46) rfl)) (hw _ (List.mem_of_getElem? (i := 47) rfl)) (hw _ (List.mem_of_getElem? (i := 48) rfl)) e26 (g := (mkF m 71 #[.val (.int x0), .val (.int x1), .val (.int x2), .val (.int x3), .val (.int x4), .val (.ref b1), .val (.ref b9), .val (.ref b17), .val (.int ((x1 &&& (2147483647 : Int32)) % (5 : Int32))), .val (.int ((x3 &&& (2147483647 : Int32)) % (5 : Int32))), .val (.int (1 : Int32)), .val (.int (1 : Int32)), .unset, .unset, .unset, .unset, .unset, .unset, .unset] [])) rfl (hb hby at_71) (by decide) (by decide)
      obtain ⟨b29, g29⟩ : ∃ z, z = h22.size := ⟨_, rfl⟩
      rw [← g29] at A29 D29 st29
      refine own_go st29 ?_
      have O30 := O23.ext E29
      have sz31 : h22.size ≤ h29.size := E29.1
      have hk32 := Nat.le_trans hk22 E29.1
      have l29 : b29 < h29.size := A29.lt
      have F29_process : Fld Z h29 b29 "com/example/breach_or_proof/breachorproof/analysis/PathStep" "process" "Lcom/example/breach_or_proof/breachorproof/Process;" .null := D29 (Or.inr (hw _ (List.mem_of_getElem? (i := 64) rfl))) (ty := (.object "com/example/breach_or_proof/breachorproof/Process")) (by decide)
      have F29_branch : Fld Z h29 b29 "com/example/breach_or_proof/breachorproof/analysis/PathStep" "branch" "Lcom/example/breach_or_proof/breachorproof/analysis/PathStep$Branch;" .null := D29 (Or.inr (hw _ (List.mem_of_getElem? (i := 69) rfl))) (ty := (.object "com/example/breach_or_proof/breachorproof/analysis/PathStep$Branch")) (by decide)
      show own_Goes p e below (T29.setTop (mkF m 74 #[.val (.int x0), .val (.int x1), .val (.int x2), .val (.int x3), .val (.int x4), .val (.ref b1), .val (.ref b9), .val (.ref b17), .val (.int ((x1 &&& (2147483647 : Int32)) % (5 : Int32))), .val (.int ((x3 &&& (2147483647 : Int32)) % (5 : Int32))), .val (.int (1 : Int32)), .val (.int (1 : Int32)), .unset, .unset, .unset, .unset, .unset, .unset, .unset] [(.ref b29)])) _
      refine own_go (fun t_ k_ => XS.dup X29.here hx rfl (hb hby at_74) rfl rfl k_) ?_
      show own_Goes p e below (T29.setTop (mkF m 75 #[.val (.int x0), .val (.int x1), .val (.int x2), .val (.int x3), .val (.int x4), .val (.ref b1), .val (.ref b9), .val (.ref b17), .val (.int ((x1 &&& (2147483647 : Int32)) % (5 : Int32))), .val (.int ((x3 &&& (2147483647 : Int32)) % (5 : Int32))), .val (.int (1 : Int32)), .val (.int (1 : Int32)), .unset, .unset, .unset, .unset, .unset, .unset, .unset] [(.ref b29), (.ref b29)])) _
      refine own_go (fun t_ k_ => XS.iload X29.here hx rfl (hb hby at_75) rfl k_) ?_
      show own_Goes p e below (T29.setTop (mkF m 77 #[.val (.int x0), .val (.int x1), .val (.int x2), .val (.int x3), .val (.int x4), .val (.ref b1), .val (.ref b9), .val (.ref b17), .val (.int ((x1 &&& (2147483647 : Int32)) % (5 : Int32))), .val (.int ((x3 &&& (2147483647 : Int32)) % (5 : Int32))), .val (.int (1 : Int32)), .val (.int (1 : Int32)), .unset, .unset, .unset, .unset, .unset, .unset, .unset] [(.int (1 : Int32)), (.ref b29), (.ref b29)])) _
      refine own_go (fun t_ k_ => XS.ifNo X29.here hx rfl (hb hby at_77) rfl ((if0 _ _).trans (feq (show ¬ ((1 : Int32) = (0 : Int32)) from by decide)).1) k_) ?_
      show own_Goes p e below (T29.setTop (mkF m 80 #[.val (.int x0), .val (.int x1), .val (.int x2), .val (.int x3), .val (.int x4), .val (.ref b1), .val (.ref b9), .val (.ref b17), .val (.int ((x1 &&& (2147483647 : Int32)) % (5 : Int32))), .val (.int ((x3 &&& (2147483647 : Int32)) % (5 : Int32))), .val (.int (1 : Int32)), .val (.int (1 : Int32)), .unset, .unset, .unset, .unset, .unset, .unset, .unset] [(.ref b29), (.ref b29)])) _
      refine own_go (fun t_ k_ => XS.aload X29.here hx rfl (hb hby at_80) rfl rfl k_) ?_
      show own_Goes p e below (T29.setTop (mkF m 82 #[.val (.int x0), .val (.int x1), .val (.int x2), .val (.int x3), .val (.int x4), .val (.ref b1), .val (.ref b9), .val (.ref b17), .val (.int ((x1 &&& (2147483647 : Int32)) % (5 : Int32))), .val (.int ((x3 &&& (2147483647 : Int32)) % (5 : Int32))), .val (.int (1 : Int32)), .val (.int (1 : Int32)), .unset, .unset, .unset, .unset, .unset, .unset, .unset] [(.ref b9), (.ref b29), (.ref b29)])) _
      refine own_go (fun t_ k_ => XS.goto X29.here hx rfl (pc0 := 82) (pc' := 87) rfl (hb hby at_82) (by decide) (by decide) k_) ?_
      show own_Goes p e below (T29.setTop (mkF m 87 #[.val (.int x0), .val (.int x1), .val (.int x2), .val (.int x3), .val (.int x4), .val (.ref b1), .val (.ref b9), .val (.ref b17), .val (.int ((x1 &&& (2147483647 : Int32)) % (5 : Int32))), .val (.int ((x3 &&& (2147483647 : Int32)) % (5 : Int32))), .val (.int (1 : Int32)), .val (.int (1 : Int32)), .unset, .unset, .unset, .unset, .unset, .unset, .unset] [(.ref b9), (.ref b29), (.ref b29)])) _
      refine own_go (fun t_ k_ => XS.iload X29.here hx rfl (hb hby at_87) rfl k_) ?_
      show own_Goes p e below (T29.setTop (mkF m 89 #[.val (.int x0), .val (.int x1), .val (.int x2), .val (.int x3), .val (.int x4), .val (.ref b1), .val (.ref b9), .val (.ref b17), .val (.int ((x1 &&& (2147483647 : Int32)) % (5 : Int32))), .val (.int ((x3 &&& (2147483647 : Int32)) % (5 : Int32))), .val (.int (1 : Int32)), .val (.int (1 : Int32)), .unset, .unset, .unset, .unset, .unset, .unset, .unset] [(.int ((x1 &&& (2147483647 : Int32)) % (5 : Int32))), (.ref b9), (.ref b29), (.ref b29)])) _
      obtain ⟨_, _, ⟨T33, L33, k33, n33⟩, -, X33, ⟨Lc33, hQ33, l33, y33, z33⟩, st33⟩ := Jvm.LawKit.callS X29 hx (y := own_m10) hown22 (mvT hZ22 (hw _ (List.mem_of_getElem? (i := 49) rfl))) (mvT hZ22 (hw _ (List.mem_of_getElem? (i := 50) rfl))) (mvT hZ22 (hw _ (List.mem_of_getElem? (i := 43) rfl))) (mvT hZ22 (hw _ (List.mem_of_getElem? (i := 51) rfl))) (by decide) (backOf (W := 3) (own_branch l Z a0 hw [] ((x1 &&& (2147483647 : Int32)) % (5 : Int32)) h29 n0 O30 gw0 gw1 gw2 gw3 gw4 G (show 0 ≤ ((x1 &&& (2147483647 : Int32)) % (5 : Int32)).toInt ∧ ((x1 &&& (2147483647 : Int32)) % (5 : Int32)).toInt < 5 from (own_rng _))) hZ22 (hw _ (List.mem_of_getElem? (i := 51) rfl)) (hw _ (List.mem_of_getElem? (i := 43) rfl)) (by decide) (by decide)) (g := (mkF m 89 #[.val (.int x0), .val (.int x1), .val (.int x2), .val (.int x3), .val (.int x4), .val (.ref b1), .val (.ref b9), .val (.ref b17), .val (.int ((x1 &&& (2147483647 : Int32)) % (5 : Int32))), .val (.int ((x3 &&& (2147483647 : Int32)) % (5 : Int32))), .val (.int (1 : Int32)), .val (.int (1 : Int32)), .unset, .unset, .unset, .unset, .unset, .unset, .unset] [(.int ((x1 &&& (2147483647 : Int32)) % (5 : Int32))), (.ref b9), (.ref b29), (.ref b29)])) rfl (by rw [hml]; rfl) (argsL := [(.int ((x1 &&& (2147483647 : Int32)) % (5 : Int32)))]) (rest := [(.ref b9), (.ref b29), (.ref b29)]) (lenOf own_pd_9 rfl) rfl (by show 2 * 0 + _ ≤ _; exact Nat.le_of_eq rfl) (hb hby at_89) (fun _ _ => ⟨rfl, e29, (by decide : 8 + 0 ≤ _), (by decide : 78 + 0 ≤ _)⟩)
      dsimp only [Pt.U, Pt.locs, Pt.cells, Pt.slots] at X33 l33 y33 z33 st33 hQ33
      subst l33 y33 z33
      obtain ⟨Nc33, e33, r_33, rfl, c33_0, c33_1, c33_2⟩ := hQ33
      rw [e33] at c33_0
      have N33 := Fr.app N26 Nc33
      have ltc33_0 : r_33 < h29.size := c33_0.lt
      refine own_go st33 ?_
      show own_Goes p e below (T33.setTop (mkF m 92 #[.val (.int x0), .val (.int x1), .val (.int x2), .val (.int x3), .val (.int x4), .val (.ref b1), .val (.ref b9), .val (.ref b17), .val (.int ((x1 &&& (2147483647 : Int32)) % (5 : Int32))), .val (.int ((x3 &&& (2147483647 : Int32)) % (5 : Int32))), .val (.int (1 : Int32)), .val (.int (1 : Int32)), .unset, .unset, .unset, .unset, .unset, .unset, .unset] [(.ref r_33), (.ref b9), (.ref b29), (.ref b29)])) _
      have f34 := ((((A9.keep Kc14).ext E17).keep Kc22).ext E29)
      obtain ⟨_, _, ⟨T35, L35, k35, n35⟩, -, X35, hS35, gr35, ⟨Lc35, hQ35, l35, y35, z35⟩, st35⟩ := X33.specialBackS hx (y := own_m12) rfl hown22 (mvT hZ22 (hw _ (List.mem_of_getElem? (i := 55) rfl))) (mvT hZ22 (hw _ (List.mem_of_getElem? (i := 56) rfl))) (mvT hZ22 (hw _ (List.mem_of_getElem? (i := 57) rfl))) (by decide) (backOfS (W := 1) (own_psInit l Z a0 hw [] b29 b9 r_33 h29 n0 O30 A29 F29_process F29_branch f34 c33_0 (show n0 ≤ b29 by first | assumption | omega | decide)) hZ22 (hw _ (List.mem_of_getElem? (i := 57) rfl)) (hw _ (List.mem_of_getElem? (i := 48) rfl)) (by decide) (by decide)) (g := (mkF m 92 #[.val (.int x0), .val (.int x1), .val (.int x2), .val (.int x3), .val (.int x4), .val (.ref b1), .val (.ref b9), .val (.ref b17), .val (.int ((x1 &&& (2147483647 : Int32)) % (5 : Int32))), .val (.int ((x3 &&& (2147483647 : Int32)) % (5 : Int32))), .val (.int (1 : Int32)), .val (.int (1 : Int32)), .unset, .unset, .unset, .unset, .unset, .unset, .unset] [(.ref r_33), (.ref b9), (.ref b29), (.ref b29)])) rfl (by rw [hml]; rfl) (Steps.refl _) (a := b29) (argsL := [(.ref b9), (.ref r_33)]) (rest := [(.ref b29)]) (lenOf own_pd_11 rfl) rfl (by show 2 * 0 + _ ≤ _; exact Nat.le_of_eq rfl) (hb hby at_92) (fun _ _ => ⟨rfl, e33, (by decide : 8 + 4 ≤ _), (by decide : 78 + 60 ≤ _)⟩)
      dsimp only [Pt.U, Pt.locs, Pt.cells, Pt.slots] at X35 l35 y35 z35 st35 hQ35 hS35 gr35
      subst l35 y35 z35
      obtain ⟨h35, e35⟩ : ∃ z, T35.heap = z := ⟨_, rfl⟩
      rw [e35] at hQ35 hS35 gr35
      obtain ⟨Nc35, Kc35, rfl, c35_0, c35_1⟩ := hQ35
      obtain ⟨X35, hS35, hZ35, hown35⟩ := rebS (own := "com/example/breach_or_proof/breachorproof/analysis/PathStepEqualsPinLaw") hS22 (show _ ≤ T33.heap.size by rw [e33]; exact hk32) X35 hS35 gr35 hZ22 hown22
      have hk35 : h35.size ≤ h35.size := Nat.le_refl _
      have N35 := Fr.app N33 Nc35
      have O36 := O30.keep Kc35 (allS (show n0 ≤ b29 by omega) all0)
      have sz37 : h29.size ≤ h35.size := Kc35.1
      refine own_goS st35 ?_
      show own_Goes p e below (T35.setTop (mkF m 95 #[.val (.int x0), .val (.int x1), .val (.int x2), .val (.int x3), .val (.int x4), .val (.ref b1), .val (.ref b9), .val (.ref b17), .val (.int ((x1 &&& (2147483647 : Int32)) % (5 : Int32))), .val (.int ((x3 &&& (2147483647 : Int32)) % (5 : Int32))), .val (.int (1 : Int32)), .val (.int (1 : Int32)), .unset, .unset, .unset, .unset, .unset, .unset, .unset] [(.ref b29)])) _
      refine own_go (fun t_ k_ => XS.astore X35.here hx rfl (hb hby at_95) rfl rfl (l' := #[.val (.int x0), .val (.int x1), .val (.int x2), .val (.int x3), .val (.int x4), .val (.ref b1), .val (.ref b9), .val (.ref b17), .val (.int ((x1 &&& (2147483647 : Int32)) % (5 : Int32))), .val (.int ((x3 &&& (2147483647 : Int32)) % (5 : Int32))), .val (.int (1 : Int32)), .val (.int (1 : Int32)), .val (.ref b29), .unset, .unset, .unset, .unset, .unset, .unset]) rfl k_) ?_
      show own_Goes p e below (T35.setTop (mkF m 97 #[.val (.int x0), .val (.int x1), .val (.int x2), .val (.int x3), .val (.int x4), .val (.ref b1), .val (.ref b9), .val (.ref b17), .val (.int ((x1 &&& (2147483647 : Int32)) % (5 : Int32))), .val (.int ((x3 &&& (2147483647 : Int32)) % (5 : Int32))), .val (.int (1 : Int32)), .val (.int (1 : Int32)), .val (.ref b29), .unset, .unset, .unset, .unset, .unset, .unset] [])) _
      obtain ⟨T38, h38, X38, e38, E38, A38, D38, -, st38⟩ := newO X35 hx hZ35 hown35 (hw _ (List.mem_of_getElem? (i := 46) rfl)) (hw _ (List.mem_of_getElem? (i := 47) rfl)) (hw _ (List.mem_of_getElem? (i := 48) rfl)) e35 (g := (mkF m 97 #[.val (.int x0), .val (.int x1), .val (.int x2), .val (.int x3), .val (.int x4), .val (.ref b1), .val (.ref b9), .val (.ref b17), .val (.int ((x1 &&& (2147483647 : Int32)) % (5 : Int32))), .val (.int ((x3 &&& (2147483647 : Int32)) % (5 : Int32))), .val (.int (1 : Int32)), .val (.int (1 : Int32)), .val (.ref b29), .unset, .unset, .unset, .unset, .unset, .unset] [])) rfl (hb hby at_97) (by decide) (by decide)
      obtain ⟨b38, g38⟩ : ∃ z, z = h35.size := ⟨_, rfl⟩
      rw [← g38] at A38 D38 st38
      refine own_go st38 ?_
      have O39 := O36.ext E38
      have sz40 : h35.size ≤ h38.size := E38.1
      have hk41 := Nat.le_trans hk35 E38.1
      have l38 : b38 < h38.size := A38.lt
      have F38_process : Fld Z h38 b38 "com/example/breach_or_proof/breachorproof/analysis/PathStep" "process" "Lcom/example/breach_or_proof/breachorproof/Process;" .null := D38 (Or.inr (hw _ (List.mem_of_getElem? (i := 64) rfl))) (ty := (.object "com/example/breach_or_proof/breachorproof/Process")) (by decide)
      have F38_branch : Fld Z h38 b38 "com/example/breach_or_proof/breachorproof/analysis/PathStep" "branch" "Lcom/example/breach_or_proof/breachorproof/analysis/PathStep$Branch;" .null := D38 (Or.inr (hw _ (List.mem_of_getElem? (i := 69) rfl))) (ty := (.object "com/example/breach_or_proof/breachorproof/analysis/PathStep$Branch")) (by decide)
      show own_Goes p e below (T38.setTop (mkF m 100 #[.val (.int x0), .val (.int x1), .val (.int x2), .val (.int x3), .val (.int x4), .val (.ref b1), .val (.ref b9), .val (.ref b17), .val (.int ((x1 &&& (2147483647 : Int32)) % (5 : Int32))), .val (.int ((x3 &&& (2147483647 : Int32)) % (5 : Int32))), .val (.int (1 : Int32)), .val (.int (1 : Int32)), .val (.ref b29), .unset, .unset, .unset, .unset, .unset, .unset] [(.ref b38)])) _
      refine own_go (fun t_ k_ => XS.dup X38.here hx rfl (hb hby at_100) rfl rfl k_) ?_
      show own_Goes p e below (T38.setTop (mkF m 101 #[.val (.int x0), .val (.int x1), .val (.int x2), .val (.int x3), .val (.int x4), .val (.ref b1), .val (.ref b9), .val (.ref b17), .val (.int ((x1 &&& (2147483647 : Int32)) % (5 : Int32))), .val (.int ((x3 &&& (2147483647 : Int32)) % (5 : Int32))), .val (.int (1 : Int32)), .val (.int (1 : Int32)), .val (.ref b29), .unset, .unset, .unset, .unset, .unset, .unset] [(.ref b38), (.ref b38)])) _
      refine own_go (fun t_ k_ => XS.iload X38.here hx rfl (hb hby at_101) rfl k_) ?_
      show own_Goes p e below (T38.setTop (mkF m 103 #[.val (.int x0), .val (.int x1), .val (.int x2), .val (.int x3), .val (.int x4), .val (.ref b1), .val (.ref b9), .val (.ref b17), .val (.int ((x1 &&& (2147483647 : Int32)) % (5 : Int32))), .val (.int ((x3 &&& (2147483647 : Int32)) % (5 : Int32))), .val (.int (1 : Int32)), .val (.int (1 : Int32)), .val (.ref b29), .unset, .unset, .unset, .unset, .unset, .unset] [(.int (1 : Int32)), (.ref b38), (.ref b38)])) _
      refine own_go (fun t_ k_ => XS.ifNo X38.here hx rfl (hb hby at_103) rfl ((if0 _ _).trans (feq (show ¬ ((1 : Int32) = (0 : Int32)) from by decide)).1) k_) ?_
      show own_Goes p e below (T38.setTop (mkF m 106 #[.val (.int x0), .val (.int x1), .val (.int x2), .val (.int x3), .val (.int x4), .val (.ref b1), .val (.ref b9), .val (.ref b17), .val (.int ((x1 &&& (2147483647 : Int32)) % (5 : Int32))), .val (.int ((x3 &&& (2147483647 : Int32)) % (5 : Int32))), .val (.int (1 : Int32)), .val (.int (1 : Int32)), .val (.ref b29), .unset, .unset, .unset, .unset, .unset, .unset] [(.ref b38), (.ref b38)])) _
      refine own_go (fun t_ k_ => XS.aload X38.here hx rfl (hb hby at_106) rfl rfl k_) ?_
      show own_Goes p e below (T38.setTop (mkF m 108 #[.val (.int x0), .val (.int x1), .val (.int x2), .val (.int x3), .val (.int x4), .val (.ref b1), .val (.ref b9), .val (.ref b17), .val (.int ((x1 &&& (2147483647 : Int32)) % (5 : Int32))), .val (.int ((x3 &&& (2147483647 : Int32)) % (5 : Int32))), .val (.int (1 : Int32)), .val (.int (1 : Int32)), .val (.ref b29), .unset, .unset, .unset, .unset, .unset, .unset] [(.ref b9), (.ref b38), (.ref b38)])) _
      refine own_go (fun t_ k_ => XS.goto X38.here hx rfl (pc0 := 108) (pc' := 113) rfl (hb hby at_108) (by decide) (by decide) k_) ?_
      show own_Goes p e below (T38.setTop (mkF m 113 #[.val (.int x0), .val (.int x1), .val (.int x2), .val (.int x3), .val (.int x4), .val (.ref b1), .val (.ref b9), .val (.ref b17), .val (.int ((x1 &&& (2147483647 : Int32)) % (5 : Int32))), .val (.int ((x3 &&& (2147483647 : Int32)) % (5 : Int32))), .val (.int (1 : Int32)), .val (.int (1 : Int32)), .val (.ref b29), .unset, .unset, .unset, .unset, .unset, .unset] [(.ref b9), (.ref b38), (.ref b38)])) _
      refine own_go (fun t_ k_ => XS.iload X38.here hx rfl (hb hby at_113) rfl k_) ?_
      show own_Goes p e below (T38.setTop (mkF m 115 #[.val (.int x0), .val (.int x1), .val (.int x2), .val (.int x3), .val (.int x4), .val (.ref b1), .val (.ref b9), .val (.ref b17), .val (.int ((x1 &&& (2147483647 : Int32)) % (5 : Int32))), .val (.int ((x3 &&& (2147483647 : Int32)) % (5 : Int32))), .val (.int (1 : Int32)), .val (.int (1 : Int32)), .val (.ref b29), .unset, .unset, .unset, .unset, .unset, .unset] [(.int ((x3 &&& (2147483647 : Int32)) % (5 : Int32))), (.ref b9), (.ref b38), (.ref b38)])) _
      obtain ⟨_, _, ⟨T42, L42, k42, n42⟩, -, X42, ⟨Lc42, hQ42, l42, y42, z42⟩, st42⟩ := Jvm.LawKit.callS X38 hx (y := own_m10) hown35 (mvT hZ35 (hw _ (List.mem_of_getElem? (i := 49) rfl))) (mvT hZ35 (hw _ (List.mem_of_getElem? (i := 50) rfl))) (mvT hZ35 (hw _ (List.mem_of_getElem? (i := 43) rfl))) (mvT hZ35 (hw _ (List.mem_of_getElem? (i := 51) rfl))) (by decide) (backOf (W := 3) (own_branch l Z a0 hw [] ((x3 &&& (2147483647 : Int32)) % (5 : Int32)) h38 n0 O39 gw0 gw1 gw2 gw3 gw4 G (show 0 ≤ ((x3 &&& (2147483647 : Int32)) % (5 : Int32)).toInt ∧ ((x3 &&& (2147483647 : Int32)) % (5 : Int32)).toInt < 5 from (own_rng _))) hZ35 (hw _ (List.mem_of_getElem? (i := 51) rfl)) (hw _ (List.mem_of_getElem? (i := 43) rfl)) (by decide) (by decide)) (g := (mkF m 115 #[.val (.int x0), .val (.int x1), .val (.int x2), .val (.int x3), .val (.int x4), .val (.ref b1), .val (.ref b9), .val (.ref b17), .val (.int ((x1 &&& (2147483647 : Int32)) % (5 : Int32))), .val (.int ((x3 &&& (2147483647 : Int32)) % (5 : Int32))), .val (.int (1 : Int32)), .val (.int (1 : Int32)), .val (.ref b29), .unset, .unset, .unset, .unset, .unset, .unset] [(.int ((x3 &&& (2147483647 : Int32)) % (5 : Int32))), (.ref b9), (.ref b38), (.ref b38)])) rfl (by rw [hml]; rfl) (argsL := [(.int ((x3 &&& (2147483647 : Int32)) % (5 : Int32)))]) (rest := [(.ref b9), (.ref b38), (.ref b38)]) (lenOf own_pd_9 rfl) rfl (by show 2 * 0 + _ ≤ _; exact Nat.le_of_eq rfl) (hb hby at_115) (fun _ _ => ⟨rfl, e38, (by decide : 13 + 0 ≤ _), (by decide : 140 + 0 ≤ _)⟩)
      dsimp only [Pt.U, Pt.locs, Pt.cells, Pt.slots] at X42 l42 y42 z42 st42 hQ42
      subst l42 y42 z42
      obtain ⟨Nc42, e42, r_42, rfl, c42_0, c42_1, c42_2⟩ := hQ42
      rw [e42] at c42_0
      have N42 := Fr.app N35 Nc42
      have ltc42_0 : r_42 < h38.size := c42_0.lt
      refine own_go st42 ?_
      show own_Goes p e below (T42.setTop (mkF m 118 #[.val (.int x0), .val (.int x1), .val (.int x2), .val (.int x3), .val (.int x4), .val (.ref b1), .val (.ref b9), .val (.ref b17), .val (.int ((x1 &&& (2147483647 : Int32)) % (5 : Int32))), .val (.int ((x3 &&& (2147483647 : Int32)) % (5 : Int32))), .val (.int (1 : Int32)), .val (.int (1 : Int32)), .val (.ref b29), .unset, .unset, .unset, .unset, .unset, .unset] [(.ref r_42), (.ref b9), (.ref b38), (.ref b38)])) _
      have f43 := ((f34.keep Kc35).ext E38)
      obtain ⟨_, _, ⟨T44, L44, k44, n44⟩, -, X44, hS44, gr44, ⟨Lc44, hQ44, l44, y44, z44⟩, st44⟩ := X42.specialBackS hx (y := own_m12) rfl hown35 (mvT hZ35 (hw _ (List.mem_of_getElem? (i := 55) rfl))) (mvT hZ35 (hw _ (List.mem_of_getElem? (i := 56) rfl))) (mvT hZ35 (hw _ (List.mem_of_getElem? (i := 57) rfl))) (by decide) (backOfS (W := 1) (own_psInit l Z a0 hw [] b38 b9 r_42 h38 n0 O39 A38 F38_process F38_branch f43 c42_0 (show n0 ≤ b38 by first | assumption | omega | decide)) hZ35 (hw _ (List.mem_of_getElem? (i := 57) rfl)) (hw _ (List.mem_of_getElem? (i := 48) rfl)) (by decide) (by decide)) (g := (mkF m 118 #[.val (.int x0), .val (.int x1), .val (.int x2), .val (.int x3), .val (.int x4), .val (.ref b1), .val (.ref b9), .val (.ref b17), .val (.int ((x1 &&& (2147483647 : Int32)) % (5 : Int32))), .val (.int ((x3 &&& (2147483647 : Int32)) % (5 : Int32))), .val (.int (1 : Int32)), .val (.int (1 : Int32)), .val (.ref b29), .unset, .unset, .unset, .unset, .unset, .unset] [(.ref r_42), (.ref b9), (.ref b38), (.ref b38)])) rfl (by rw [hml]; rfl) (Steps.refl _) (a := b38) (argsL := [(.ref b9), (.ref r_42)]) (rest := [(.ref b38)]) (lenOf own_pd_11 rfl) rfl (by show 2 * 0 + _ ≤ _; exact Nat.le_of_eq rfl) (hb hby at_118) (fun _ _ => ⟨rfl, e42, (by decide : 13 + 4 ≤ _), (by decide : 140 + 60 ≤ _)⟩)
      dsimp only [Pt.U, Pt.locs, Pt.cells, Pt.slots] at X44 l44 y44 z44 st44 hQ44 hS44 gr44
      subst l44 y44 z44
      obtain ⟨h44, e44⟩ : ∃ z, T44.heap = z := ⟨_, rfl⟩
      rw [e44] at hQ44 hS44 gr44
      obtain ⟨Nc44, Kc44, rfl, c44_0, c44_1⟩ := hQ44
      obtain ⟨X44, hS44, hZ44, hown44⟩ := rebS (own := "com/example/breach_or_proof/breachorproof/analysis/PathStepEqualsPinLaw") hS35 (show _ ≤ T42.heap.size by rw [e42]; exact hk41) X44 hS44 gr44 hZ35 hown35
      have hk44 : h44.size ≤ h44.size := Nat.le_refl _
      have N44 := Fr.app N42 Nc44
      have O45 := O39.keep Kc44 (allS (show n0 ≤ b38 by omega) all0)
      have sz46 : h38.size ≤ h44.size := Kc44.1
      refine own_goS st44 ?_
      show own_Goes p e below (T44.setTop (mkF m 121 #[.val (.int x0), .val (.int x1), .val (.int x2), .val (.int x3), .val (.int x4), .val (.ref b1), .val (.ref b9), .val (.ref b17), .val (.int ((x1 &&& (2147483647 : Int32)) % (5 : Int32))), .val (.int ((x3 &&& (2147483647 : Int32)) % (5 : Int32))), .val (.int (1 : Int32)), .val (.int (1 : Int32)), .val (.ref b29), .unset, .unset, .unset, .unset, .unset, .unset] [(.ref b38)])) _
      refine own_go (fun t_ k_ => XS.astore X44.here hx rfl (hb hby at_121) rfl rfl (l' := #[.val (.int x0), .val (.int x1), .val (.int x2), .val (.int x3), .val (.int x4), .val (.ref b1), .val (.ref b9), .val (.ref b17), .val (.int ((x1 &&& (2147483647 : Int32)) % (5 : Int32))), .val (.int ((x3 &&& (2147483647 : Int32)) % (5 : Int32))), .val (.int (1 : Int32)), .val (.int (1 : Int32)), .val (.ref b29), .val (.ref b38), .unset, .unset, .unset, .unset, .unset]) rfl k_) ?_
      show own_Goes p e below (T44.setTop (mkF m 123 #[.val (.int x0), .val (.int x1), .val (.int x2), .val (.int x3), .val (.int x4), .val (.ref b1), .val (.ref b9), .val (.ref b17), .val (.int ((x1 &&& (2147483647 : Int32)) % (5 : Int32))), .val (.int ((x3 &&& (2147483647 : Int32)) % (5 : Int32))), .val (.int (1 : Int32)), .val (.int (1 : Int32)), .val (.ref b29), .val (.ref b38), .unset, .unset, .unset, .unset, .unset] [])) _
      refine own_go (fun t_ k_ => XS.iload X44.here hx rfl (hb hby at_123) rfl k_) ?_
      show own_Goes p e below (T44.setTop (mkF m 125 #[.val (.int x0), .val (.int x1), .val (.int x2), .val (.int x3), .val (.int x4), .val (.ref b1), .val (.ref b9), .val (.ref b17), .val (.int ((x1 &&& (2147483647 : Int32)) % (5 : Int32))), .val (.int ((x3 &&& (2147483647 : Int32)) % (5 : Int32))), .val (.int (1 : Int32)), .val (.int (1 : Int32)), .val (.ref b29), .val (.ref b38), .unset, .unset, .unset, .unset, .unset] [(.int x4)])) _
      refine own_go (fun t_ k_ => Jvm.Stand.ldcI X44 hx hown44 (mv hZ44 (hw _ (List.mem_of_getElem? (i := 45) rfl))) rfl (hb hby at_125) k_) ?_
      show own_Goes p e below (T44.setTop (mkF m 127 #[.val (.int x0), .val (.int x1), .val (.int x2), .val (.int x3), .val (.int x4), .val (.ref b1), .val (.ref b9), .val (.ref b17), .val (.int ((x1 &&& (2147483647 : Int32)) % (5 : Int32))), .val (.int ((x3 &&& (2147483647 : Int32)) % (5 : Int32))), .val (.int (1 : Int32)), .val (.int (1 : Int32)), .val (.ref b29), .val (.ref b38), .unset, .unset, .unset, .unset, .unset] [(.int (2147483647 : Int32)), (.int x4)])) _
      refine own_go (fun t_ k_ => XS.iand X44.here hx rfl (hb hby at_127) rfl k_) ?_
      show own_Goes p e below (T44.setTop (mkF m 128 #[.val (.int x0), .val (.int x1), .val (.int x2), .val (.int x3), .val (.int x4), .val (.ref b1), .val (.ref b9), .val (.ref b17), .val (.int ((x1 &&& (2147483647 : Int32)) % (5 : Int32))), .val (.int ((x3 &&& (2147483647 : Int32)) % (5 : Int32))), .val (.int (1 : Int32)), .val (.int (1 : Int32)), .val (.ref b29), .val (.ref b38), .unset, .unset, .unset, .unset, .unset] [(.int (x4 &&& (2147483647 : Int32)))])) _
      refine own_go (fun t_ k_ => XS.iconst X44.here hx rfl (hb hby at_128) k_) ?_
      show own_Goes p e below (T44.setTop (mkF m 129 #[.val (.int x0), .val (.int x1), .val (.int x2), .val (.int x3), .val (.int x4), .val (.ref b1), .val (.ref b9), .val (.ref b17), .val (.int ((x1 &&& (2147483647 : Int32)) % (5 : Int32))), .val (.int ((x3 &&& (2147483647 : Int32)) % (5 : Int32))), .val (.int (1 : Int32)), .val (.int (1 : Int32)), .val (.ref b29), .val (.ref b38), .unset, .unset, .unset, .unset, .unset] [(.int (3 : Int32)), (.int (x4 &&& (2147483647 : Int32)))])) _
      refine own_go (fun t_ k_ => iremM X44 hx rfl (hb hby at_129) rfl (by decide) k_) ?_
      show own_Goes p e below (T44.setTop (mkF m 130 #[.val (.int x0), .val (.int x1), .val (.int x2), .val (.int x3), .val (.int x4), .val (.ref b1), .val (.ref b9), .val (.ref b17), .val (.int ((x1 &&& (2147483647 : Int32)) % (5 : Int32))), .val (.int ((x3 &&& (2147483647 : Int32)) % (5 : Int32))), .val (.int (1 : Int32)), .val (.int (1 : Int32)), .val (.ref b29), .val (.ref b38), .unset, .unset, .unset, .unset, .unset] [(.int ((x4 &&& (2147483647 : Int32)) % (3 : Int32)))])) _
      refine own_go (fun t_ k_ => XS.istore X44.here hx rfl (hb hby at_130) rfl (l' := #[.val (.int x0), .val (.int x1), .val (.int x2), .val (.int x3), .val (.int x4), .val (.ref b1), .val (.ref b9), .val (.ref b17), .val (.int ((x1 &&& (2147483647 : Int32)) % (5 : Int32))), .val (.int ((x3 &&& (2147483647 : Int32)) % (5 : Int32))), .val (.int (1 : Int32)), .val (.int (1 : Int32)), .val (.ref b29), .val (.ref b38), .val (.int ((x4 &&& (2147483647 : Int32)) % (3 : Int32))), .unset, .unset, .unset, .unset]) rfl k_) ?_
      show own_Goes p e below (T44.setTop (mkF m 132 #[.val (.int x0), .val (.int x1), .val (.int x2), .val (.int x3), .val (.int x4), .val (.ref b1), .val (.ref b9), .val (.ref b17), .val (.int ((x1 &&& (2147483647 : Int32)) % (5 : Int32))), .val (.int ((x3 &&& (2147483647 : Int32)) % (5 : Int32))), .val (.int (1 : Int32)), .val (.int (1 : Int32)), .val (.ref b29), .val (.ref b38), .val (.int ((x4 &&& (2147483647 : Int32)) % (3 : Int32))), .unset, .unset, .unset, .unset] [])) _
      refine own_go (fun t_ k_ => XS.iload X44.here hx rfl (hb hby at_132) rfl k_) ?_
      show own_Goes p e below (T44.setTop (mkF m 134 #[.val (.int x0), .val (.int x1), .val (.int x2), .val (.int x3), .val (.int x4), .val (.ref b1), .val (.ref b9), .val (.ref b17), .val (.int ((x1 &&& (2147483647 : Int32)) % (5 : Int32))), .val (.int ((x3 &&& (2147483647 : Int32)) % (5 : Int32))), .val (.int (1 : Int32)), .val (.int (1 : Int32)), .val (.ref b29), .val (.ref b38), .val (.int ((x4 &&& (2147483647 : Int32)) % (3 : Int32))), .unset, .unset, .unset, .unset] [(.int ((x4 &&& (2147483647 : Int32)) % (3 : Int32)))])) _
      by_cases hc47 : ((x4 &&& (2147483647 : Int32)) % (3 : Int32)) = (0 : Int32)
      · refine own_go (fun t_ k_ => XS.ifNo X44.here hx rfl (hb hby at_134) rfl ((if0 _ _).trans (teq hc47).2) k_) ?_
        show own_Goes p e below (T44.setTop (mkF m 137 #[.val (.int x0), .val (.int x1), .val (.int x2), .val (.int x3), .val (.int x4), .val (.ref b1), .val (.ref b9), .val (.ref b17), .val (.int ((x1 &&& (2147483647 : Int32)) % (5 : Int32))), .val (.int ((x3 &&& (2147483647 : Int32)) % (5 : Int32))), .val (.int (1 : Int32)), .val (.int (1 : Int32)), .val (.ref b29), .val (.ref b38), .val (.int ((x4 &&& (2147483647 : Int32)) % (3 : Int32))), .unset, .unset, .unset, .unset] [])) _
        refine own_go (fun t_ k_ => XS.aload X44.here hx rfl (hb hby at_137) rfl rfl k_) ?_
        show own_Goes p e below (T44.setTop (mkF m 139 #[.val (.int x0), .val (.int x1), .val (.int x2), .val (.int x3), .val (.int x4), .val (.ref b1), .val (.ref b9), .val (.ref b17), .val (.int ((x1 &&& (2147483647 : Int32)) % (5 : Int32))), .val (.int ((x3 &&& (2147483647 : Int32)) % (5 : Int32))), .val (.int (1 : Int32)), .val (.int (1 : Int32)), .val (.ref b29), .val (.ref b38), .val (.int ((x4 &&& (2147483647 : Int32)) % (3 : Int32))), .unset, .unset, .unset, .unset] [(.ref b38)])) _
        refine own_go (fun t_ k_ => XS.astore X44.here hx rfl (hb hby at_139) rfl rfl (l' := #[.val (.int x0), .val (.int x1), .val (.int x2), .val (.int x3), .val (.int x4), .val (.ref b1), .val (.ref b9), .val (.ref b17), .val (.int ((x1 &&& (2147483647 : Int32)) % (5 : Int32))), .val (.int ((x3 &&& (2147483647 : Int32)) % (5 : Int32))), .val (.int (1 : Int32)), .val (.int (1 : Int32)), .val (.ref b29), .val (.ref b38), .val (.int ((x4 &&& (2147483647 : Int32)) % (3 : Int32))), .val (.ref b38), .unset, .unset, .unset]) rfl k_) ?_
        show own_Goes p e below (T44.setTop (mkF m 141 #[.val (.int x0), .val (.int x1), .val (.int x2), .val (.int x3), .val (.int x4), .val (.ref b1), .val (.ref b9), .val (.ref b17), .val (.int ((x1 &&& (2147483647 : Int32)) % (5 : Int32))), .val (.int ((x3 &&& (2147483647 : Int32)) % (5 : Int32))), .val (.int (1 : Int32)), .val (.int (1 : Int32)), .val (.ref b29), .val (.ref b38), .val (.int ((x4 &&& (2147483647 : Int32)) % (3 : Int32))), .val (.ref b38), .unset, .unset, .unset] [])) _
        refine own_go (fun t_ k_ => XS.goto X44.here hx rfl (pc0 := 141) (pc' := 170) rfl (hb hby at_141) (by decide) (by decide) k_) ?_
        show own_Goes p e below (T44.setTop (mkF m 170 #[.val (.int x0), .val (.int x1), .val (.int x2), .val (.int x3), .val (.int x4), .val (.ref b1), .val (.ref b9), .val (.ref b17), .val (.int ((x1 &&& (2147483647 : Int32)) % (5 : Int32))), .val (.int ((x3 &&& (2147483647 : Int32)) % (5 : Int32))), .val (.int (1 : Int32)), .val (.int (1 : Int32)), .val (.ref b29), .val (.ref b38), .val (.int ((x4 &&& (2147483647 : Int32)) % (3 : Int32))), .val (.ref b38), .unset, .unset, .unset] [])) _
        refine own_go (fun t_ k_ => XS.iload X44.here hx rfl (hb hby at_170) rfl k_) ?_
        show own_Goes p e below (T44.setTop (mkF m 172 #[.val (.int x0), .val (.int x1), .val (.int x2), .val (.int x3), .val (.int x4), .val (.ref b1), .val (.ref b9), .val (.ref b17), .val (.int ((x1 &&& (2147483647 : Int32)) % (5 : Int32))), .val (.int ((x3 &&& (2147483647 : Int32)) % (5 : Int32))), .val (.int (1 : Int32)), .val (.int (1 : Int32)), .val (.ref b29), .val (.ref b38), .val (.int ((x4 &&& (2147483647 : Int32)) % (3 : Int32))), .val (.ref b38), .unset, .unset, .unset] [(.int ((x4 &&& (2147483647 : Int32)) % (3 : Int32)))])) _
        refine own_go (fun t_ k_ => XS.ifNo X44.here hx rfl (hb hby at_172) rfl ((if0 _ _).trans (teq hc47).2) k_) ?_
        show own_Goes p e below (T44.setTop (mkF m 175 #[.val (.int x0), .val (.int x1), .val (.int x2), .val (.int x3), .val (.int x4), .val (.ref b1), .val (.ref b9), .val (.ref b17), .val (.int ((x1 &&& (2147483647 : Int32)) % (5 : Int32))), .val (.int ((x3 &&& (2147483647 : Int32)) % (5 : Int32))), .val (.int (1 : Int32)), .val (.int (1 : Int32)), .val (.ref b29), .val (.ref b38), .val (.int ((x4 &&& (2147483647 : Int32)) % (3 : Int32))), .val (.ref b38), .unset, .unset, .unset] [])) _
        refine own_go (fun t_ k_ => XS.iload X44.here hx rfl (hb hby at_175) rfl k_) ?_
        show own_Goes p e below (T44.setTop (mkF m 177 #[.val (.int x0), .val (.int x1), .val (.int x2), .val (.int x3), .val (.int x4), .val (.ref b1), .val (.ref b9), .val (.ref b17), .val (.int ((x1 &&& (2147483647 : Int32)) % (5 : Int32))), .val (.int ((x3 &&& (2147483647 : Int32)) % (5 : Int32))), .val (.int (1 : Int32)), .val (.int (1 : Int32)), .val (.ref b29), .val (.ref b38), .val (.int ((x4 &&& (2147483647 : Int32)) % (3 : Int32))), .val (.ref b38), .unset, .unset, .unset] [(.int (1 : Int32))])) _
        refine own_go (fun t_ k_ => XS.iload X44.here hx rfl (hb hby at_177) rfl k_) ?_
        show own_Goes p e below (T44.setTop (mkF m 179 #[.val (.int x0), .val (.int x1), .val (.int x2), .val (.int x3), .val (.int x4), .val (.ref b1), .val (.ref b9), .val (.ref b17), .val (.int ((x1 &&& (2147483647 : Int32)) % (5 : Int32))), .val (.int ((x3 &&& (2147483647 : Int32)) % (5 : Int32))), .val (.int (1 : Int32)), .val (.int (1 : Int32)), .val (.ref b29), .val (.ref b38), .val (.int ((x4 &&& (2147483647 : Int32)) % (3 : Int32))), .val (.ref b38), .unset, .unset, .unset] [(.int (1 : Int32)), (.int (1 : Int32))])) _
        refine own_go (fun t_ k_ => XS.icmpNo X44.here hx rfl (hb hby at_179) rfl (teq (show ((1 : Int32) = (1 : Int32)) from by decide)).2 k_) ?_
        show own_Goes p e below (T44.setTop (mkF m 182 #[.val (.int x0), .val (.int x1), .val (.int x2), .val (.int x3), .val (.int x4), .val (.ref b1), .val (.ref b9), .val (.ref b17), .val (.int ((x1 &&& (2147483647 : Int32)) % (5 : Int32))), .val (.int ((x3 &&& (2147483647 : Int32)) % (5 : Int32))), .val (.int (1 : Int32)), .val (.int (1 : Int32)), .val (.ref b29), .val (.ref b38), .val (.int ((x4 &&& (2147483647 : Int32)) % (3 : Int32))), .val (.ref b38), .unset, .unset, .unset] [])) _
        refine own_go (fun t_ k_ => XS.iload X44.here hx rfl (hb hby at_182) rfl k_) ?_
        show own_Goes p e below (T44.setTop (mkF m 184 #[.val (.int x0), .val (.int x1), .val (.int x2), .val (.int x3), .val (.int x4), .val (.ref b1), .val (.ref b9), .val (.ref b17), .val (.int ((x1 &&& (2147483647 : Int32)) % (5 : Int32))), .val (.int ((x3 &&& (2147483647 : Int32)) % (5 : Int32))), .val (.int (1 : Int32)), .val (.int (1 : Int32)), .val (.ref b29), .val (.ref b38), .val (.int ((x4 &&& (2147483647 : Int32)) % (3 : Int32))), .val (.ref b38), .unset, .unset, .unset] [(.int ((x1 &&& (2147483647 : Int32)) % (5 : Int32)))])) _
        refine own_go (fun t_ k_ => XS.iload X44.here hx rfl (hb hby at_184) rfl k_) ?_
        show own_Goes p e below (T44.setTop (mkF m 186 #[.val (.int x0), .val (.int x1), .val (.int x2), .val (.int x3), .val (.int x4), .val (.ref b1), .val (.ref b9), .val (.ref b17), .val (.int ((x1 &&& (2147483647 : Int32)) % (5 : Int32))), .val (.int ((x3 &&& (2147483647 : Int32)) % (5 : Int32))), .val (.int (1 : Int32)), .val (.int (1 : Int32)), .val (.ref b29), .val (.ref b38), .val (.int ((x4 &&& (2147483647 : Int32)) % (3 : Int32))), .val (.ref b38), .unset, .unset, .unset] [(.int ((x3 &&& (2147483647 : Int32)) % (5 : Int32))), (.int ((x1 &&& (2147483647 : Int32)) % (5 : Int32)))])) _
        by_cases hc48 : ((x1 &&& (2147483647 : Int32)) % (5 : Int32)) = ((x3 &&& (2147483647 : Int32)) % (5 : Int32))
        · refine own_go (fun t_ k_ => XS.icmpNo X44.here hx rfl (hb hby at_186) rfl (teq hc48).2 k_) ?_
          show own_Goes p e below (T44.setTop (mkF m 189 #[.val (.int x0), .val (.int x1), .val (.int x2), .val (.int x3), .val (.int x4), .val (.ref b1), .val (.ref b9), .val (.ref b17), .val (.int ((x1 &&& (2147483647 : Int32)) % (5 : Int32))), .val (.int ((x3 &&& (2147483647 : Int32)) % (5 : Int32))), .val (.int (1 : Int32)), .val (.int (1 : Int32)), .val (.ref b29), .val (.ref b38), .val (.int ((x4 &&& (2147483647 : Int32)) % (3 : Int32))), .val (.ref b38), .unset, .unset, .unset] [])) _
          refine own_go (fun t_ k_ => XS.iconst X44.here hx rfl (hb hby at_189) k_) ?_
          show own_Goes p e below (T44.setTop (mkF m 190 #[.val (.int x0), .val (.int x1), .val (.int x2), .val (.int x3), .val (.int x4), .val (.ref b1), .val (.ref b9), .val (.ref b17), .val (.int ((x1 &&& (2147483647 : Int32)) % (5 : Int32))), .val (.int ((x3 &&& (2147483647 : Int32)) % (5 : Int32))), .val (.int (1 : Int32)), .val (.int (1 : Int32)), .val (.ref b29), .val (.ref b38), .val (.int ((x4 &&& (2147483647 : Int32)) % (3 : Int32))), .val (.ref b38), .unset, .unset, .unset] [(.int (1 : Int32))])) _
          refine own_go (fun t_ k_ => XS.goto X44.here hx rfl (pc0 := 190) (pc' := 194) rfl (hb hby at_190) (by decide) (by decide) k_) ?_
          show own_Goes p e below (T44.setTop (mkF m 194 #[.val (.int x0), .val (.int x1), .val (.int x2), .val (.int x3), .val (.int x4), .val (.ref b1), .val (.ref b9), .val (.ref b17), .val (.int ((x1 &&& (2147483647 : Int32)) % (5 : Int32))), .val (.int ((x3 &&& (2147483647 : Int32)) % (5 : Int32))), .val (.int (1 : Int32)), .val (.int (1 : Int32)), .val (.ref b29), .val (.ref b38), .val (.int ((x4 &&& (2147483647 : Int32)) % (3 : Int32))), .val (.ref b38), .unset, .unset, .unset] [(.int (1 : Int32))])) _
          refine own_go (fun t_ k_ => XS.istore X44.here hx rfl (hb hby at_194) rfl (l' := #[.val (.int x0), .val (.int x1), .val (.int x2), .val (.int x3), .val (.int x4), .val (.ref b1), .val (.ref b9), .val (.ref b17), .val (.int ((x1 &&& (2147483647 : Int32)) % (5 : Int32))), .val (.int ((x3 &&& (2147483647 : Int32)) % (5 : Int32))), .val (.int (1 : Int32)), .val (.int (1 : Int32)), .val (.ref b29), .val (.ref b38), .val (.int ((x4 &&& (2147483647 : Int32)) % (3 : Int32))), .val (.ref b38), .val (.int (1 : Int32)), .unset, .unset]) rfl k_) ?_
          show own_Goes p e below (T44.setTop (mkF m 196 #[.val (.int x0), .val (.int x1), .val (.int x2), .val (.int x3), .val (.int x4), .val (.ref b1), .val (.ref b9), .val (.ref b17), .val (.int ((x1 &&& (2147483647 : Int32)) % (5 : Int32))), .val (.int ((x3 &&& (2147483647 : Int32)) % (5 : Int32))), .val (.int (1 : Int32)), .val (.int (1 : Int32)), .val (.ref b29), .val (.ref b38), .val (.int ((x4 &&& (2147483647 : Int32)) % (3 : Int32))), .val (.ref b38), .val (.int (1 : Int32)), .unset, .unset] [])) _
          refine own_go (fun t_ k_ => XS.aload X44.here hx rfl (hb hby at_196) rfl rfl k_) ?_
          show own_Goes p e below (T44.setTop (mkF m 198 #[.val (.int x0), .val (.int x1), .val (.int x2), .val (.int x3), .val (.int x4), .val (.ref b1), .val (.ref b9), .val (.ref b17), .val (.int ((x1 &&& (2147483647 : Int32)) % (5 : Int32))), .val (.int ((x3 &&& (2147483647 : Int32)) % (5 : Int32))), .val (.int (1 : Int32)), .val (.int (1 : Int32)), .val (.ref b29), .val (.ref b38), .val (.int ((x4 &&& (2147483647 : Int32)) % (3 : Int32))), .val (.ref b38), .val (.int (1 : Int32)), .unset, .unset] [(.ref b29)])) _
          refine own_go (fun t_ k_ => XS.aload X44.here hx rfl (hb hby at_198) rfl rfl k_) ?_
          show own_Goes p e below (T44.setTop (mkF m 200 #[.val (.int x0), .val (.int x1), .val (.int x2), .val (.int x3), .val (.int x4), .val (.ref b1), .val (.ref b9), .val (.ref b17), .val (.int ((x1 &&& (2147483647 : Int32)) % (5 : Int32))), .val (.int ((x3 &&& (2147483647 : Int32)) % (5 : Int32))), .val (.int (1 : Int32)), .val (.int (1 : Int32)), .val (.ref b29), .val (.ref b38), .val (.int ((x4 &&& (2147483647 : Int32)) % (3 : Int32))), .val (.ref b38), .val (.int (1 : Int32)), .unset, .unset] [(.ref b38), (.ref b29)])) _
          have f49 := (A38.keep Kc44)
          have f50 := ((c35_0.ext E38).keep Kc44 (ninS (own_ne (a := b29) (b := b38) (by omega)) nin0))
          have f51 := ((c35_1.ext E38).keep Kc44 (ninS (own_ne (a := b29) (b := b38) (by omega)) nin0))
          have f52 := (((A29.keep Kc35).ext E38).keep Kc44)
          obtain ⟨cqiv53, kqiv53, qiv53a, qiv53b, qiv53c⟩ := isOf hZ44 e44 f52
          obtain ⟨_, _, ⟨T54, L54, k54, n54⟩, -, X54, ⟨Lc54, hQ54, l54, y54, z54⟩, st54⟩ := X44.virtualBack hx (y := own_m14) (z := own_m14) hown44 (mvT hZ44 (hw _ (List.mem_of_getElem? (i := 72) rfl))) (mvT hZ44 (hw _ (List.mem_of_getElem? (i := 73) rfl))) (notFace_of_selects (args := #[]) (mvT hZ44 (hw _ (List.mem_of_getElem? (i := 75) rfl)))) (mvT hZ44 (hw _ (List.mem_of_getElem? (i := 75) rfl))) (mvT hZ44 (hw _ (List.mem_of_getElem? (i := 74) rfl))) (by decide) (backOf (W := 0) (own_eqT l Z a0 hw [] b29 b38 b9 b9 r_33 r_42 h44 n0 O45 f49 f50 c44_0 f51 c44_1 (show b9 = b9 from rfl) (show r_33 = r_42 from (by rw [c33_1, c42_1, hc48]))) hZ44 (hw _ (List.mem_of_getElem? (i := 76) rfl)) (hw _ (List.mem_of_getElem? (i := 48) rfl)) (by decide) (by decide)) qiv53a qiv53c (g := (mkF m 200 #[.val (.int x0), .val (.int x1), .val (.int x2), .val (.int x3), .val (.int x4), .val (.ref b1), .val (.ref b9), .val (.ref b17), .val (.int ((x1 &&& (2147483647 : Int32)) % (5 : Int32))), .val (.int ((x3 &&& (2147483647 : Int32)) % (5 : Int32))), .val (.int (1 : Int32)), .val (.int (1 : Int32)), .val (.ref b29), .val (.ref b38), .val (.int ((x4 &&& (2147483647 : Int32)) % (3 : Int32))), .val (.ref b38), .val (.int (1 : Int32)), .unset, .unset] [(.ref b38), (.ref b29)])) rfl (by rw [hml]; rfl) (Steps.refl _) (argsL := [(.ref b38)]) (rest := []) (lenOf own_pd_13 rfl) rfl (by show 2 * 0 + _ ≤ _; exact Nat.le_of_eq rfl) (hb hby at_200) (fun _ _ => ⟨rfl, e44, (by decide : 17 + 0 ≤ _), (by decide : 200 + 0 ≤ _)⟩)
          dsimp only [Pt.U, Pt.locs, Pt.cells, Pt.slots] at X54 l54 y54 z54 st54 hQ54
          subst l54 y54 z54
          obtain ⟨Nc54, e54, rfl⟩ := hQ54
          have N54 := Fr.app N44 Nc54
          refine own_goS st54 ?_
          show own_Goes p e below (T54.setTop (mkF m 203 #[.val (.int x0), .val (.int x1), .val (.int x2), .val (.int x3), .val (.int x4), .val (.ref b1), .val (.ref b9), .val (.ref b17), .val (.int ((x1 &&& (2147483647 : Int32)) % (5 : Int32))), .val (.int ((x3 &&& (2147483647 : Int32)) % (5 : Int32))), .val (.int (1 : Int32)), .val (.int (1 : Int32)), .val (.ref b29), .val (.ref b38), .val (.int ((x4 &&& (2147483647 : Int32)) % (3 : Int32))), .val (.ref b38), .val (.int (1 : Int32)), .unset, .unset] [(.int (1 : Int32))])) _
          refine own_go (fun t_ k_ => XS.istore X54.here hx rfl (hb hby at_203) rfl (l' := #[.val (.int x0), .val (.int x1), .val (.int x2), .val (.int x3), .val (.int x4), .val (.ref b1), .val (.ref b9), .val (.ref b17), .val (.int ((x1 &&& (2147483647 : Int32)) % (5 : Int32))), .val (.int ((x3 &&& (2147483647 : Int32)) % (5 : Int32))), .val (.int (1 : Int32)), .val (.int (1 : Int32)), .val (.ref b29), .val (.ref b38), .val (.int ((x4 &&& (2147483647 : Int32)) % (3 : Int32))), .val (.ref b38), .val (.int (1 : Int32)), .val (.int (1 : Int32)), .unset]) rfl k_) ?_
          show own_Goes p e below (T54.setTop (mkF m 205 #[.val (.int x0), .val (.int x1), .val (.int x2), .val (.int x3), .val (.int x4), .val (.ref b1), .val (.ref b9), .val (.ref b17), .val (.int ((x1 &&& (2147483647 : Int32)) % (5 : Int32))), .val (.int ((x3 &&& (2147483647 : Int32)) % (5 : Int32))), .val (.int (1 : Int32)), .val (.int (1 : Int32)), .val (.ref b29), .val (.ref b38), .val (.int ((x4 &&& (2147483647 : Int32)) % (3 : Int32))), .val (.ref b38), .val (.int (1 : Int32)), .val (.int (1 : Int32)), .unset] [])) _
          refine own_go (fun t_ k_ => XS.aload X54.here hx rfl (hb hby at_205) rfl rfl k_) ?_
          show own_Goes p e below (T54.setTop (mkF m 207 #[.val (.int x0), .val (.int x1), .val (.int x2), .val (.int x3), .val (.int x4), .val (.ref b1), .val (.ref b9), .val (.ref b17), .val (.int ((x1 &&& (2147483647 : Int32)) % (5 : Int32))), .val (.int ((x3 &&& (2147483647 : Int32)) % (5 : Int32))), .val (.int (1 : Int32)), .val (.int (1 : Int32)), .val (.ref b29), .val (.ref b38), .val (.int ((x4 &&& (2147483647 : Int32)) % (3 : Int32))), .val (.ref b38), .val (.int (1 : Int32)), .val (.int (1 : Int32)), .unset] [(.ref b29)])) _
          refine own_go (fun t_ k_ => XS.aload X54.here hx rfl (hb hby at_207) rfl rfl k_) ?_
          show own_Goes p e below (T54.setTop (mkF m 209 #[.val (.int x0), .val (.int x1), .val (.int x2), .val (.int x3), .val (.int x4), .val (.ref b1), .val (.ref b9), .val (.ref b17), .val (.int ((x1 &&& (2147483647 : Int32)) % (5 : Int32))), .val (.int ((x3 &&& (2147483647 : Int32)) % (5 : Int32))), .val (.int (1 : Int32)), .val (.int (1 : Int32)), .val (.ref b29), .val (.ref b38), .val (.int ((x4 &&& (2147483647 : Int32)) % (3 : Int32))), .val (.ref b38), .val (.int (1 : Int32)), .val (.int (1 : Int32)), .unset] [(.ref b29), (.ref b29)])) _
          obtain ⟨cqiv55, kqiv55, qiv55a, qiv55b, qiv55c⟩ := isOf hZ44 e54 f52
          obtain ⟨_, _, ⟨T56, L56, k56, n56⟩, -, X56, ⟨Lc56, hQ56, l56, y56, z56⟩, st56⟩ := X54.virtualBack hx (y := own_m14) (z := own_m14) hown44 (mvT hZ44 (hw _ (List.mem_of_getElem? (i := 72) rfl))) (mvT hZ44 (hw _ (List.mem_of_getElem? (i := 73) rfl))) (notFace_of_selects (args := #[]) (mvT hZ44 (hw _ (List.mem_of_getElem? (i := 75) rfl)))) (mvT hZ44 (hw _ (List.mem_of_getElem? (i := 75) rfl))) (mvT hZ44 (hw _ (List.mem_of_getElem? (i := 74) rfl))) (by decide) (backOf (W := 0) (own_eqT l Z a0 hw [] b29 b29 b9 b9 r_33 r_33 h44 n0 O45 f52 f50 f50 f51 f51 (show b9 = b9 from rfl) (show r_33 = r_33 from rfl)) hZ44 (hw _ (List.mem_of_getElem? (i := 76) rfl)) (hw _ (List.mem_of_getElem? (i := 48) rfl)) (by decide) (by decide)) qiv55a qiv55c (g := (mkF m 209 #[.val (.int x0), .val (.int x1), .val (.int x2), .val (.int x3), .val (.int x4), .val (.ref b1), .val (.ref b9), .val (.ref b17), .val (.int ((x1 &&& (2147483647 : Int32)) % (5 : Int32))), .val (.int ((x3 &&& (2147483647 : Int32)) % (5 : Int32))), .val (.int (1 : Int32)), .val (.int (1 : Int32)), .val (.ref b29), .val (.ref b38), .val (.int ((x4 &&& (2147483647 : Int32)) % (3 : Int32))), .val (.ref b38), .val (.int (1 : Int32)), .val (.int (1 : Int32)), .unset] [(.ref b29), (.ref b29)])) rfl (by rw [hml]; rfl) (Steps.refl _) (argsL := [(.ref b29)]) (rest := []) (lenOf own_pd_13 rfl) rfl (by show 2 * 0 + _ ≤ _; exact Nat.le_of_eq rfl) (hb hby at_209) (fun _ _ => ⟨rfl, e54, (by decide : 17 + 0 ≤ _), (by decide : 200 + 0 ≤ _)⟩)
          dsimp only [Pt.U, Pt.locs, Pt.cells, Pt.slots] at X56 l56 y56 z56 st56 hQ56
          subst l56 y56 z56
          obtain ⟨Nc56, e56, rfl⟩ := hQ56
          have N56 := Fr.app N54 Nc56
          refine own_goS st56 ?_
          show own_Goes p e below (T56.setTop (mkF m 212 #[.val (.int x0), .val (.int x1), .val (.int x2), .val (.int x3), .val (.int x4), .val (.ref b1), .val (.ref b9), .val (.ref b17), .val (.int ((x1 &&& (2147483647 : Int32)) % (5 : Int32))), .val (.int ((x3 &&& (2147483647 : Int32)) % (5 : Int32))), .val (.int (1 : Int32)), .val (.int (1 : Int32)), .val (.ref b29), .val (.ref b38), .val (.int ((x4 &&& (2147483647 : Int32)) % (3 : Int32))), .val (.ref b38), .val (.int (1 : Int32)), .val (.int (1 : Int32)), .unset] [(.int (1 : Int32))])) _
          refine own_go (fun t_ k_ => XS.istore X56.here hx rfl (hb hby at_212) rfl (l' := #[.val (.int x0), .val (.int x1), .val (.int x2), .val (.int x3), .val (.int x4), .val (.ref b1), .val (.ref b9), .val (.ref b17), .val (.int ((x1 &&& (2147483647 : Int32)) % (5 : Int32))), .val (.int ((x3 &&& (2147483647 : Int32)) % (5 : Int32))), .val (.int (1 : Int32)), .val (.int (1 : Int32)), .val (.ref b29), .val (.ref b38), .val (.int ((x4 &&& (2147483647 : Int32)) % (3 : Int32))), .val (.ref b38), .val (.int (1 : Int32)), .val (.int (1 : Int32)), .val (.int (1 : Int32))]) rfl k_) ?_
          show own_Goes p e below (T56.setTop (mkF m 214 #[.val (.int x0), .val (.int x1), .val (.int x2), .val (.int x3), .val (.int x4), .val (.ref b1), .val (.ref b9), .val (.ref b17), .val (.int ((x1 &&& (2147483647 : Int32)) % (5 : Int32))), .val (.int ((x3 &&& (2147483647 : Int32)) % (5 : Int32))), .val (.int (1 : Int32)), .val (.int (1 : Int32)), .val (.ref b29), .val (.ref b38), .val (.int ((x4 &&& (2147483647 : Int32)) % (3 : Int32))), .val (.ref b38), .val (.int (1 : Int32)), .val (.int (1 : Int32)), .val (.int (1 : Int32))] [])) _
          refine own_go (fun t_ k_ => XS.iload X56.here hx rfl (hb hby at_214) rfl k_) ?_
          show own_Goes p e below (T56.setTop (mkF m 216 #[.val (.int x0), .val (.int x1), .val (.int x2), .val (.int x3), .val (.int x4), .val (.ref b1), .val (.ref b9), .val (.ref b17), .val (.int ((x1 &&& (2147483647 : Int32)) % (5 : Int32))), .val (.int ((x3 &&& (2147483647 : Int32)) % (5 : Int32))), .val (.int (1 : Int32)), .val (.int (1 : Int32)), .val (.ref b29), .val (.ref b38), .val (.int ((x4 &&& (2147483647 : Int32)) % (3 : Int32))), .val (.ref b38), .val (.int (1 : Int32)), .val (.int (1 : Int32)), .val (.int (1 : Int32))] [(.int (1 : Int32))])) _
          refine own_go (fun t_ k_ => XS.iload X56.here hx rfl (hb hby at_216) rfl k_) ?_
          show own_Goes p e below (T56.setTop (mkF m 218 #[.val (.int x0), .val (.int x1), .val (.int x2), .val (.int x3), .val (.int x4), .val (.ref b1), .val (.ref b9), .val (.ref b17), .val (.int ((x1 &&& (2147483647 : Int32)) % (5 : Int32))), .val (.int ((x3 &&& (2147483647 : Int32)) % (5 : Int32))), .val (.int (1 : Int32)), .val (.int (1 : Int32)), .val (.ref b29), .val (.ref b38), .val (.int ((x4 &&& (2147483647 : Int32)) % (3 : Int32))), .val (.ref b38), .val (.int (1 : Int32)), .val (.int (1 : Int32)), .val (.int (1 : Int32))] [(.int (1 : Int32)), (.int (1 : Int32))])) _
          refine own_go (fun t_ k_ => XS.icmpNo X56.here hx rfl (hb hby at_218) rfl (teq (show ((1 : Int32) = (1 : Int32)) from by decide)).2 k_) ?_
          show own_Goes p e below (T56.setTop (mkF m 221 #[.val (.int x0), .val (.int x1), .val (.int x2), .val (.int x3), .val (.int x4), .val (.ref b1), .val (.ref b9), .val (.ref b17), .val (.int ((x1 &&& (2147483647 : Int32)) % (5 : Int32))), .val (.int ((x3 &&& (2147483647 : Int32)) % (5 : Int32))), .val (.int (1 : Int32)), .val (.int (1 : Int32)), .val (.ref b29), .val (.ref b38), .val (.int ((x4 &&& (2147483647 : Int32)) % (3 : Int32))), .val (.ref b38), .val (.int (1 : Int32)), .val (.int (1 : Int32)), .val (.int (1 : Int32))] [])) _
          refine own_go (fun t_ k_ => XS.iload X56.here hx rfl (hb hby at_221) rfl k_) ?_
          show own_Goes p e below (T56.setTop (mkF m 223 #[.val (.int x0), .val (.int x1), .val (.int x2), .val (.int x3), .val (.int x4), .val (.ref b1), .val (.ref b9), .val (.ref b17), .val (.int ((x1 &&& (2147483647 : Int32)) % (5 : Int32))), .val (.int ((x3 &&& (2147483647 : Int32)) % (5 : Int32))), .val (.int (1 : Int32)), .val (.int (1 : Int32)), .val (.ref b29), .val (.ref b38), .val (.int ((x4 &&& (2147483647 : Int32)) % (3 : Int32))), .val (.ref b38), .val (.int (1 : Int32)), .val (.int (1 : Int32)), .val (.int (1 : Int32))] [(.int (1 : Int32))])) _
          refine own_go (fun t_ k_ => XS.ifNo X56.here hx rfl (hb hby at_223) rfl ((if0 _ _).trans (feq (show ¬ ((1 : Int32) = (0 : Int32)) from by decide)).1) k_) ?_
          show own_Goes p e below (T56.setTop (mkF m 226 #[.val (.int x0), .val (.int x1), .val (.int x2), .val (.int x3), .val (.int x4), .val (.ref b1), .val (.ref b9), .val (.ref b17), .val (.int ((x1 &&& (2147483647 : Int32)) % (5 : Int32))), .val (.int ((x3 &&& (2147483647 : Int32)) % (5 : Int32))), .val (.int (1 : Int32)), .val (.int (1 : Int32)), .val (.ref b29), .val (.ref b38), .val (.int ((x4 &&& (2147483647 : Int32)) % (3 : Int32))), .val (.ref b38), .val (.int (1 : Int32)), .val (.int (1 : Int32)), .val (.int (1 : Int32))] [])) _
          refine own_go (fun t_ k_ => XS.iconst X56.here hx rfl (hb hby at_226) k_) ?_
          show own_Goes p e below (T56.setTop (mkF m 227 #[.val (.int x0), .val (.int x1), .val (.int x2), .val (.int x3), .val (.int x4), .val (.ref b1), .val (.ref b9), .val (.ref b17), .val (.int ((x1 &&& (2147483647 : Int32)) % (5 : Int32))), .val (.int ((x3 &&& (2147483647 : Int32)) % (5 : Int32))), .val (.int (1 : Int32)), .val (.int (1 : Int32)), .val (.ref b29), .val (.ref b38), .val (.int ((x4 &&& (2147483647 : Int32)) % (3 : Int32))), .val (.ref b38), .val (.int (1 : Int32)), .val (.int (1 : Int32)), .val (.int (1 : Int32))] [(.int (1 : Int32))])) _
          refine own_go (fun t_ k_ => XS.goto X56.here hx rfl (pc0 := 227) (pc' := 231) rfl (hb hby at_227) (by decide) (by decide) k_) ?_
          show own_Goes p e below (T56.setTop (mkF m 231 #[.val (.int x0), .val (.int x1), .val (.int x2), .val (.int x3), .val (.int x4), .val (.ref b1), .val (.ref b9), .val (.ref b17), .val (.int ((x1 &&& (2147483647 : Int32)) % (5 : Int32))), .val (.int ((x3 &&& (2147483647 : Int32)) % (5 : Int32))), .val (.int (1 : Int32)), .val (.int (1 : Int32)), .val (.ref b29), .val (.ref b38), .val (.int ((x4 &&& (2147483647 : Int32)) % (3 : Int32))), .val (.ref b38), .val (.int (1 : Int32)), .val (.int (1 : Int32)), .val (.int (1 : Int32))] [(.int (1 : Int32))])) _
          refine own_endW X56 hS44 (show _ ≤ T56.heap.size by rw [e56]; exact hk44) (v := (some (.int (1 : Int32)))) (fun h => by rw [hret] at h; cases h) hlk (by decide) (by decide) ?_ (fun fs hr => retOut X56 hx hret rfl (Or.inl ⟨rfl, Or.inr (Or.inl rfl), _, rfl⟩) (hb hby at_231) hr)
          show Q_rm0 Z x0 x1 x2 x3 x4 gw0 gw1 gw2 gw3 gw4 h0 n0 _ T56.heap _
          rw [e56]
          exact ⟨N56, trivial, rfl⟩
        · refine own_go (fun t_ k_ => XS.icmpYes X44.here hx rfl (pc0 := 186) (pc' := 193) rfl (hb hby at_186) rfl (feq hc48).2 (by decide) (by decide) k_) ?_
          show own_Goes p e below (T44.setTop (mkF m 193 #[.val (.int x0), .val (.int x1), .val (.int x2), .val (.int x3), .val (.int x4), .val (.ref b1), .val (.ref b9), .val (.ref b17), .val (.int ((x1 &&& (2147483647 : Int32)) % (5 : Int32))), .val (.int ((x3 &&& (2147483647 : Int32)) % (5 : Int32))), .val (.int (1 : Int32)), .val (.int (1 : Int32)), .val (.ref b29), .val (.ref b38), .val (.int ((x4 &&& (2147483647 : Int32)) % (3 : Int32))), .val (.ref b38), .unset, .unset, .unset] [])) _
          refine own_go (fun t_ k_ => XS.iconst X44.here hx rfl (hb hby at_193) k_) ?_
          show own_Goes p e below (T44.setTop (mkF m 194 #[.val (.int x0), .val (.int x1), .val (.int x2), .val (.int x3), .val (.int x4), .val (.ref b1), .val (.ref b9), .val (.ref b17), .val (.int ((x1 &&& (2147483647 : Int32)) % (5 : Int32))), .val (.int ((x3 &&& (2147483647 : Int32)) % (5 : Int32))), .val (.int (1 : Int32)), .val (.int (1 : Int32)), .val (.ref b29), .val (.ref b38), .val (.int ((x4 &&& (2147483647 : Int32)) % (3 : Int32))), .val (.ref b38), .unset, .unset, .unset] [(.int (0 : Int32))])) _
          refine own_go (fun t_ k_ => XS.istore X44.here hx rfl (hb hby at_194) rfl (l' := #[.val (.int x0), .val (.int x1), .val (.int x2), .val (.int x3), .val (.int x4), .val (.ref b1), .val (.ref b9), .val (.ref b17), .val (.int ((x1 &&& (2147483647 : Int32)) % (5 : Int32))), .val (.int ((x3 &&& (2147483647 : Int32)) % (5 : Int32))), .val (.int (1 : Int32)), .val (.int (1 : Int32)), .val (.ref b29), .val (.ref b38), .val (.int ((x4 &&& (2147483647 : Int32)) % (3 : Int32))), .val (.ref b38), .val (.int (0 : Int32)), .unset, .unset]) rfl k_) ?_
          show own_Goes p e below (T44.setTop (mkF m 196 #[.val (.int x0), .val (.int x1), .val (.int x2), .val (.int x3), .val (.int x4), .val (.ref b1), .val (.ref b9), .val (.ref b17), .val (.int ((x1 &&& (2147483647 : Int32)) % (5 : Int32))), .val (.int ((x3 &&& (2147483647 : Int32)) % (5 : Int32))), .val (.int (1 : Int32)), .val (.int (1 : Int32)), .val (.ref b29), .val (.ref b38), .val (.int ((x4 &&& (2147483647 : Int32)) % (3 : Int32))), .val (.ref b38), .val (.int (0 : Int32)), .unset, .unset] [])) _
          refine own_go (fun t_ k_ => XS.aload X44.here hx rfl (hb hby at_196) rfl rfl k_) ?_
          show own_Goes p e below (T44.setTop (mkF m 198 #[.val (.int x0), .val (.int x1), .val (.int x2), .val (.int x3), .val (.int x4), .val (.ref b1), .val (.ref b9), .val (.ref b17), .val (.int ((x1 &&& (2147483647 : Int32)) % (5 : Int32))), .val (.int ((x3 &&& (2147483647 : Int32)) % (5 : Int32))), .val (.int (1 : Int32)), .val (.int (1 : Int32)), .val (.ref b29), .val (.ref b38), .val (.int ((x4 &&& (2147483647 : Int32)) % (3 : Int32))), .val (.ref b38), .val (.int (0 : Int32)), .unset, .unset] [(.ref b29)])) _
          refine own_go (fun t_ k_ => XS.aload X44.here hx rfl (hb hby at_198) rfl rfl k_) ?_
          show own_Goes p e below (T44.setTop (mkF m 200 #[.val (.int x0), .val (.int x1), .val (.int x2), .val (.int x3), .val (.int x4), .val (.ref b1), .val (.ref b9), .val (.ref b17), .val (.int ((x1 &&& (2147483647 : Int32)) % (5 : Int32))), .val (.int ((x3 &&& (2147483647 : Int32)) % (5 : Int32))), .val (.int (1 : Int32)), .val (.int (1 : Int32)), .val (.ref b29), .val (.ref b38), .val (.int ((x4 &&& (2147483647 : Int32)) % (3 : Int32))), .val (.ref b38), .val (.int (0 : Int32)), .unset, .unset] [(.ref b38), (.ref b29)])) _
          have f57 := (A38.keep Kc44)
          have f58 := ((c35_0.ext E38).keep Kc44 (ninS (own_ne (a := b29) (b := b38) (by omega)) nin0))
          have f59 := ((c35_1.ext E38).keep Kc44 (ninS (own_ne (a := b29) (b := b38) (by omega)) nin0))
          have f60 := (((A29.keep Kc35).ext E38).keep Kc44)
          obtain ⟨cqiv61, kqiv61, qiv61a, qiv61b, qiv61c⟩ := isOf hZ44 e44 f60
          obtain ⟨_, _, ⟨T62, L62, k62, n62⟩, -, X62, ⟨Lc62, hQ62, l62, y62, z62⟩, st62⟩ := X44.virtualBack hx (y := own_m14) (z := own_m14) hown44 (mvT hZ44 (hw _ (List.mem_of_getElem? (i := 72) rfl))) (mvT hZ44 (hw _ (List.mem_of_getElem? (i := 73) rfl))) (notFace_of_selects (args := #[]) (mvT hZ44 (hw _ (List.mem_of_getElem? (i := 75) rfl)))) (mvT hZ44 (hw _ (List.mem_of_getElem? (i := 75) rfl))) (mvT hZ44 (hw _ (List.mem_of_getElem? (i := 74) rfl))) (by decide) (backOf (W := 0) (own_eqF l Z a0 hw [] b29 b38 b9 b9 r_33 r_42 h44 n0 O45 f57 f58 c44_0 f59 c44_1 (show ¬ (b9 = b9 ∧ r_33 = r_42) from (fun q => Fld.ne c33_2 c42_2 (fun z => hc48 (Value.int.inj z)) q.2))) hZ44 (hw _ (List.mem_of_getElem? (i := 76) rfl)) (hw _ (List.mem_of_getElem? (i := 48) rfl)) (by decide) (by decide)) qiv61a qiv61c (g := (mkF m 200 #[.val (.int x0), .val (.int x1), .val (.int x2), .val (.int x3), .val (.int x4), .val (.ref b1), .val (.ref b9), .val (.ref b17), .val (.int ((x1 &&& (2147483647 : Int32)) % (5 : Int32))), .val (.int ((x3 &&& (2147483647 : Int32)) % (5 : Int32))), .val (.int (1 : Int32)), .val (.int (1 : Int32)), .val (.ref b29), .val (.ref b38), .val (.int ((x4 &&& (2147483647 : Int32)) % (3 : Int32))), .val (.ref b38), .val (.int (0 : Int32)), .unset, .unset] [(.ref b38), (.ref b29)])) rfl (by rw [hml]; rfl) (Steps.refl _) (argsL := [(.ref b38)]) (rest := []) (lenOf own_pd_13 rfl) rfl (by show 2 * 0 + _ ≤ _; exact Nat.le_of_eq rfl) (hb hby at_200) (fun _ _ => ⟨rfl, e44, (by decide : 17 + 0 ≤ _), (by decide : 200 + 0 ≤ _)⟩)
          dsimp only [Pt.U, Pt.locs, Pt.cells, Pt.slots] at X62 l62 y62 z62 st62 hQ62
          subst l62 y62 z62
          obtain ⟨Nc62, e62, rfl⟩ := hQ62
          have N62 := Fr.app N44 Nc62
          refine own_goS st62 ?_
          show own_Goes p e below (T62.setTop (mkF m 203 #[.val (.int x0), .val (.int x1), .val (.int x2), .val (.int x3), .val (.int x4), .val (.ref b1), .val (.ref b9), .val (.ref b17), .val (.int ((x1 &&& (2147483647 : Int32)) % (5 : Int32))), .val (.int ((x3 &&& (2147483647 : Int32)) % (5 : Int32))), .val (.int (1 : Int32)), .val (.int (1 : Int32)), .val (.ref b29), .val (.ref b38), .val (.int ((x4 &&& (2147483647 : Int32)) % (3 : Int32))), .val (.ref b38), .val (.int (0 : Int32)), .unset, .unset] [(.int (0 : Int32))])) _
          refine own_go (fun t_ k_ => XS.istore X62.here hx rfl (hb hby at_203) rfl (l' := #[.val (.int x0), .val (.int x1), .val (.int x2), .val (.int x3), .val (.int x4), .val (.ref b1), .val (.ref b9), .val (.ref b17), .val (.int ((x1 &&& (2147483647 : Int32)) % (5 : Int32))), .val (.int ((x3 &&& (2147483647 : Int32)) % (5 : Int32))), .val (.int (1 : Int32)), .val (.int (1 : Int32)), .val (.ref b29), .val (.ref b38), .val (.int ((x4 &&& (2147483647 : Int32)) % (3 : Int32))), .val (.ref b38), .val (.int (0 : Int32)), .val (.int (0 : Int32)), .unset]) rfl k_) ?_
          show own_Goes p e below (T62.setTop (mkF m 205 #[.val (.int x0), .val (.int x1), .val (.int x2), .val (.int x3), .val (.int x4), .val (.ref b1), .val (.ref b9), .val (.ref b17), .val (.int ((x1 &&& (2147483647 : Int32)) % (5 : Int32))), .val (.int ((x3 &&& (2147483647 : Int32)) % (5 : Int32))), .val (.int (1 : Int32)), .val (.int (1 : Int32)), .val (.ref b29), .val (.ref b38), .val (.int ((x4 &&& (2147483647 : Int32)) % (3 : Int32))), .val (.ref b38), .val (.int (0 : Int32)), .val (.int (0 : Int32)), .unset] [])) _
          refine own_go (fun t_ k_ => XS.aload X62.here hx rfl (hb hby at_205) rfl rfl k_) ?_
          show own_Goes p e below (T62.setTop (mkF m 207 #[.val (.int x0), .val (.int x1), .val (.int x2), .val (.int x3), .val (.int x4), .val (.ref b1), .val (.ref b9), .val (.ref b17), .val (.int ((x1 &&& (2147483647 : Int32)) % (5 : Int32))), .val (.int ((x3 &&& (2147483647 : Int32)) % (5 : Int32))), .val (.int (1 : Int32)), .val (.int (1 : Int32)), .val (.ref b29), .val (.ref b38), .val (.int ((x4 &&& (2147483647 : Int32)) % (3 : Int32))), .val (.ref b38), .val (.int (0 : Int32)), .val (.int (0 : Int32)), .unset] [(.ref b29)])) _
          refine own_go (fun t_ k_ => XS.aload X62.here hx rfl (hb hby at_207) rfl rfl k_) ?_
          show own_Goes p e below (T62.setTop (mkF m 209 #[.val (.int x0), .val (.int x1), .val (.int x2), .val (.int x3), .val (.int x4), .val (.ref b1), .val (.ref b9), .val (.ref b17), .val (.int ((x1 &&& (2147483647 : Int32)) % (5 : Int32))), .val (.int ((x3 &&& (2147483647 : Int32)) % (5 : Int32))), .val (.int (1 : Int32)), .val (.int (1 : Int32)), .val (.ref b29), .val (.ref b38), .val (.int ((x4 &&& (2147483647 : Int32)) % (3 : Int32))), .val (.ref b38), .val (.int (0 : Int32)), .val (.int (0 : Int32)), .unset] [(.ref b29), (.ref b29)])) _
          obtain ⟨cqiv63, kqiv63, qiv63a, qiv63b, qiv63c⟩ := isOf hZ44 e62 f60
          obtain ⟨_, _, ⟨T64, L64, k64, n64⟩, -, X64, ⟨Lc64, hQ64, l64, y64, z64⟩, st64⟩ := X62.virtualBack hx (y := own_m14) (z := own_m14) hown44 (mvT hZ44 (hw _ (List.mem_of_getElem? (i := 72) rfl))) (mvT hZ44 (hw _ (List.mem_of_getElem? (i := 73) rfl))) (notFace_of_selects (args := #[]) (mvT hZ44 (hw _ (List.mem_of_getElem? (i := 75) rfl)))) (mvT hZ44 (hw _ (List.mem_of_getElem? (i := 75) rfl))) (mvT hZ44 (hw _ (List.mem_of_getElem? (i := 74) rfl))) (by decide) (backOf (W := 0) (own_eqT l Z a0 hw [] b29 b29 b9 b9 r_33 r_33 h44 n0 O45 f60 f58 f58 f59 f59 (show b9 = b9 from rfl) (show r_33 = r_33 from rfl)) hZ44 (hw _ (List.mem_of_getElem? (i := 76) rfl)) (hw _ (List.mem_of_getElem? (i := 48) rfl)) (by decide) (by decide)) qiv63a qiv63c (g := (mkF m 209 #[.val (.int x0), .val (.int x1), .val (.int x2), .val (.int x3), .val (.int x4), .val (.ref b1), .val (.ref b9), .val (.ref b17), .val (.int ((x1 &&& (2147483647 : Int32)) % (5 : Int32))), .val (.int ((x3 &&& (2147483647 : Int32)) % (5 : Int32))), .val (.int (1 : Int32)), .val (.int (1 : Int32)), .val (.ref b29), .val (.ref b38), .val (.int ((x4 &&& (2147483647 : Int32)) % (3 : Int32))), .val (.ref b38), .val (.int (0 : Int32)), .val (.int (0 : Int32)), .unset] [(.ref b29), (.ref b29)])) rfl (by rw [hml]; rfl) (Steps.refl _) (argsL := [(.ref b29)]) (rest := []) (lenOf own_pd_13 rfl) rfl (by show 2 * 0 + _ ≤ _; exact Nat.le_of_eq rfl) (hb hby at_209) (fun _ _ => ⟨rfl, e62, (by decide : 17 + 0 ≤ _), (by decide : 200 + 0 ≤ _)⟩)
          dsimp only [Pt.U, Pt.locs, Pt.cells, Pt.slots] at X64 l64 y64 z64 st64 hQ64
          subst l64 y64 z64
          obtain ⟨Nc64, e64, rfl⟩ := hQ64
          have N64 := Fr.app N62 Nc64
          refine own_goS st64 ?_
          show own_Goes p e below (T64.setTop (mkF m 212 #[.val (.int x0), .val (.int x1), .val (.int x2), .val (.int x3), .val (.int x4), .val (.ref b1), .val (.ref b9), .val (.ref b17), .val (.int ((x1 &&& (2147483647 : Int32)) % (5 : Int32))), .val (.int ((x3 &&& (2147483647 : Int32)) % (5 : Int32))), .val (.int (1 : Int32)), .val (.int (1 : Int32)), .val (.ref b29), .val (.ref b38), .val (.int ((x4 &&& (2147483647 : Int32)) % (3 : Int32))), .val (.ref b38), .val (.int (0 : Int32)), .val (.int (0 : Int32)), .unset] [(.int (1 : Int32))])) _
          refine own_go (fun t_ k_ => XS.istore X64.here hx rfl (hb hby at_212) rfl (l' := #[.val (.int x0), .val (.int x1), .val (.int x2), .val (.int x3), .val (.int x4), .val (.ref b1), .val (.ref b9), .val (.ref b17), .val (.int ((x1 &&& (2147483647 : Int32)) % (5 : Int32))), .val (.int ((x3 &&& (2147483647 : Int32)) % (5 : Int32))), .val (.int (1 : Int32)), .val (.int (1 : Int32)), .val (.ref b29), .val (.ref b38), .val (.int ((x4 &&& (2147483647 : Int32)) % (3 : Int32))), .val (.ref b38), .val (.int (0 : Int32)), .val (.int (0 : Int32)), .val (.int (1 : Int32))]) rfl k_) ?_
          show own_Goes p e below (T64.setTop (mkF m 214 #[.val (.int x0), .val (.int x1), .val (.int x2), .val (.int x3), .val (.int x4), .val (.ref b1), .val (.ref b9), .val (.ref b17), .val (.int ((x1 &&& (2147483647 : Int32)) % (5 : Int32))), .val (.int ((x3 &&& (2147483647 : Int32)) % (5 : Int32))), .val (.int (1 : Int32)), .val (.int (1 : Int32)), .val (.ref b29), .val (.ref b38), .val (.int ((x4 &&& (2147483647 : Int32)) % (3 : Int32))), .val (.ref b38), .val (.int (0 : Int32)), .val (.int (0 : Int32)), .val (.int (1 : Int32))] [])) _
          refine own_go (fun t_ k_ => XS.iload X64.here hx rfl (hb hby at_214) rfl k_) ?_
          show own_Goes p e below (T64.setTop (mkF m 216 #[.val (.int x0), .val (.int x1), .val (.int x2), .val (.int x3), .val (.int x4), .val (.ref b1), .val (.ref b9), .val (.ref b17), .val (.int ((x1 &&& (2147483647 : Int32)) % (5 : Int32))), .val (.int ((x3 &&& (2147483647 : Int32)) % (5 : Int32))), .val (.int (1 : Int32)), .val (.int (1 : Int32)), .val (.ref b29), .val (.ref b38), .val (.int ((x4 &&& (2147483647 : Int32)) % (3 : Int32))), .val (.ref b38), .val (.int (0 : Int32)), .val (.int (0 : Int32)), .val (.int (1 : Int32))] [(.int (0 : Int32))])) _
          refine own_go (fun t_ k_ => XS.iload X64.here hx rfl (hb hby at_216) rfl k_) ?_
          show own_Goes p e below (T64.setTop (mkF m 218 #[.val (.int x0), .val (.int x1), .val (.int x2), .val (.int x3), .val (.int x4), .val (.ref b1), .val (.ref b9), .val (.ref b17), .val (.int ((x1 &&& (2147483647 : Int32)) % (5 : Int32))), .val (.int ((x3 &&& (2147483647 : Int32)) % (5 : Int32))), .val (.int (1 : Int32)), .val (.int (1 : Int32)), .val (.ref b29), .val (.ref b38), .val (.int ((x4 &&& (2147483647 : Int32)) % (3 : Int32))), .val (.ref b38), .val (.int (0 : Int32)), .val (.int (0 : Int32)), .val (.int (1 : Int32))] [(.int (0 : Int32)), (.int (0 : Int32))])) _
          refine own_go (fun t_ k_ => XS.icmpNo X64.here hx rfl (hb hby at_218) rfl (teq (show ((0 : Int32) = (0 : Int32)) from by decide)).2 k_) ?_
          show own_Goes p e below (T64.setTop (mkF m 221 #[.val (.int x0), .val (.int x1), .val (.int x2), .val (.int x3), .val (.int x4), .val (.ref b1), .val (.ref b9), .val (.ref b17), .val (.int ((x1 &&& (2147483647 : Int32)) % (5 : Int32))), .val (.int ((x3 &&& (2147483647 : Int32)) % (5 : Int32))), .val (.int (1 : Int32)), .val (.int (1 : Int32)), .val (.ref b29), .val (.ref b38), .val (.int ((x4 &&& (2147483647 : Int32)) % (3 : Int32))), .val (.ref b38), .val (.int (0 : Int32)), .val (.int (0 : Int32)), .val (.int (1 : Int32))] [])) _
          refine own_go (fun t_ k_ => XS.iload X64.here hx rfl (hb hby at_221) rfl k_) ?_
          show own_Goes p e below (T64.setTop (mkF m 223 #[.val (.int x0), .val (.int x1), .val (.int x2), .val (.int x3), .val (.int x4), .val (.ref b1), .val (.ref b9), .val (.ref b17), .val (.int ((x1 &&& (2147483647 : Int32)) % (5 : Int32))), .val (.int ((x3 &&& (2147483647 : Int32)) % (5 : Int32))), .val (.int (1 : Int32)), .val (.int (1 : Int32)), .val (.ref b29), .val (.ref b38), .val (.int ((x4 &&& (2147483647 : Int32)) % (3 : Int32))), .val (.ref b38), .val (.int (0 : Int32)), .val (.int (0 : Int32)), .val (.int (1 : Int32))] [(.int (1 : Int32))])) _
          refine own_go (fun t_ k_ => XS.ifNo X64.here hx rfl (hb hby at_223) rfl ((if0 _ _).trans (feq (show ¬ ((1 : Int32) = (0 : Int32)) from by decide)).1) k_) ?_
          show own_Goes p e below (T64.setTop (mkF m 226 #[.val (.int x0), .val (.int x1), .val (.int x2), .val (.int x3), .val (.int x4), .val (.ref b1), .val (.ref b9), .val (.ref b17), .val (.int ((x1 &&& (2147483647 : Int32)) % (5 : Int32))), .val (.int ((x3 &&& (2147483647 : Int32)) % (5 : Int32))), .val (.int (1 : Int32)), .val (.int (1 : Int32)), .val (.ref b29), .val (.ref b38), .val (.int ((x4 &&& (2147483647 : Int32)) % (3 : Int32))), .val (.ref b38), .val (.int (0 : Int32)), .val (.int (0 : Int32)), .val (.int (1 : Int32))] [])) _
          refine own_go (fun t_ k_ => XS.iconst X64.here hx rfl (hb hby at_226) k_) ?_
          show own_Goes p e below (T64.setTop (mkF m 227 #[.val (.int x0), .val (.int x1), .val (.int x2), .val (.int x3), .val (.int x4), .val (.ref b1), .val (.ref b9), .val (.ref b17), .val (.int ((x1 &&& (2147483647 : Int32)) % (5 : Int32))), .val (.int ((x3 &&& (2147483647 : Int32)) % (5 : Int32))), .val (.int (1 : Int32)), .val (.int (1 : Int32)), .val (.ref b29), .val (.ref b38), .val (.int ((x4 &&& (2147483647 : Int32)) % (3 : Int32))), .val (.ref b38), .val (.int (0 : Int32)), .val (.int (0 : Int32)), .val (.int (1 : Int32))] [(.int (1 : Int32))])) _
          refine own_go (fun t_ k_ => XS.goto X64.here hx rfl (pc0 := 227) (pc' := 231) rfl (hb hby at_227) (by decide) (by decide) k_) ?_
          show own_Goes p e below (T64.setTop (mkF m 231 #[.val (.int x0), .val (.int x1), .val (.int x2), .val (.int x3), .val (.int x4), .val (.ref b1), .val (.ref b9), .val (.ref b17), .val (.int ((x1 &&& (2147483647 : Int32)) % (5 : Int32))), .val (.int ((x3 &&& (2147483647 : Int32)) % (5 : Int32))), .val (.int (1 : Int32)), .val (.int (1 : Int32)), .val (.ref b29), .val (.ref b38), .val (.int ((x4 &&& (2147483647 : Int32)) % (3 : Int32))), .val (.ref b38), .val (.int (0 : Int32)), .val (.int (0 : Int32)), .val (.int (1 : Int32))] [(.int (1 : Int32))])) _
          refine own_endW X64 hS44 (show _ ≤ T64.heap.size by rw [e64]; exact hk44) (v := (some (.int (1 : Int32)))) (fun h => by rw [hret] at h; cases h) hlk (by decide) (by decide) ?_ (fun fs hr => retOut X64 hx hret rfl (Or.inl ⟨rfl, Or.inr (Or.inl rfl), _, rfl⟩) (hb hby at_231) hr)
          show Q_rm0 Z x0 x1 x2 x3 x4 gw0 gw1 gw2 gw3 gw4 h0 n0 _ T64.heap _
          rw [e64]
          exact ⟨N64, trivial, rfl⟩
      · refine own_go (fun t_ k_ => XS.ifYes X44.here hx rfl (pc0 := 134) (pc' := 144) rfl (hb hby at_134) rfl ((if0 _ _).trans (feq hc47).2) (by decide) (by decide) k_) ?_
        show own_Goes p e below (T44.setTop (mkF m 144 #[.val (.int x0), .val (.int x1), .val (.int x2), .val (.int x3), .val (.int x4), .val (.ref b1), .val (.ref b9), .val (.ref b17), .val (.int ((x1 &&& (2147483647 : Int32)) % (5 : Int32))), .val (.int ((x3 &&& (2147483647 : Int32)) % (5 : Int32))), .val (.int (1 : Int32)), .val (.int (1 : Int32)), .val (.ref b29), .val (.ref b38), .val (.int ((x4 &&& (2147483647 : Int32)) % (3 : Int32))), .unset, .unset, .unset, .unset] [])) _
        refine own_go (fun t_ k_ => XS.iload X44.here hx rfl (hb hby at_144) rfl k_) ?_
        show own_Goes p e below (T44.setTop (mkF m 146 #[.val (.int x0), .val (.int x1), .val (.int x2), .val (.int x3), .val (.int x4), .val (.ref b1), .val (.ref b9), .val (.ref b17), .val (.int ((x1 &&& (2147483647 : Int32)) % (5 : Int32))), .val (.int ((x3 &&& (2147483647 : Int32)) % (5 : Int32))), .val (.int (1 : Int32)), .val (.int (1 : Int32)), .val (.ref b29), .val (.ref b38), .val (.int ((x4 &&& (2147483647 : Int32)) % (3 : Int32))), .unset, .unset, .unset, .unset] [(.int ((x4 &&& (2147483647 : Int32)) % (3 : Int32)))])) _
        refine own_go (fun t_ k_ => XS.iconst X44.here hx rfl (hb hby at_146) k_) ?_
        show own_Goes p e below (T44.setTop (mkF m 147 #[.val (.int x0), .val (.int x1), .val (.int x2), .val (.int x3), .val (.int x4), .val (.ref b1), .val (.ref b9), .val (.ref b17), .val (.int ((x1 &&& (2147483647 : Int32)) % (5 : Int32))), .val (.int ((x3 &&& (2147483647 : Int32)) % (5 : Int32))), .val (.int (1 : Int32)), .val (.int (1 : Int32)), .val (.ref b29), .val (.ref b38), .val (.int ((x4 &&& (2147483647 : Int32)) % (3 : Int32))), .unset, .unset, .unset, .unset] [(.int (1 : Int32)), (.int ((x4 &&& (2147483647 : Int32)) % (3 : Int32)))])) _
        by_cases hc65 : ((x4 &&& (2147483647 : Int32)) % (3 : Int32)) = (1 : Int32)
        · refine own_go (fun t_ k_ => XS.icmpNo X44.here hx rfl (hb hby at_147) rfl (teq hc65).2 k_) ?_
          show own_Goes p e below (T44.setTop (mkF m 150 #[.val (.int x0), .val (.int x1), .val (.int x2), .val (.int x3), .val (.int x4), .val (.ref b1), .val (.ref b9), .val (.ref b17), .val (.int ((x1 &&& (2147483647 : Int32)) % (5 : Int32))), .val (.int ((x3 &&& (2147483647 : Int32)) % (5 : Int32))), .val (.int (1 : Int32)), .val (.int (1 : Int32)), .val (.ref b29), .val (.ref b38), .val (.int ((x4 &&& (2147483647 : Int32)) % (3 : Int32))), .unset, .unset, .unset, .unset] [])) _
          refine own_go (fun t_ k_ => XS.aconstNull X44.here hx rfl (hb hby at_150) k_) ?_
          show own_Goes p e below (T44.setTop (mkF m 151 #[.val (.int x0), .val (.int x1), .val (.int x2), .val (.int x3), .val (.int x4), .val (.ref b1), .val (.ref b9), .val (.ref b17), .val (.int ((x1 &&& (2147483647 : Int32)) % (5 : Int32))), .val (.int ((x3 &&& (2147483647 : Int32)) % (5 : Int32))), .val (.int (1 : Int32)), .val (.int (1 : Int32)), .val (.ref b29), .val (.ref b38), .val (.int ((x4 &&& (2147483647 : Int32)) % (3 : Int32))), .unset, .unset, .unset, .unset] [.null])) _
          refine own_go (fun t_ k_ => XS.astore X44.here hx rfl (hb hby at_151) rfl rfl (l' := #[.val (.int x0), .val (.int x1), .val (.int x2), .val (.int x3), .val (.int x4), .val (.ref b1), .val (.ref b9), .val (.ref b17), .val (.int ((x1 &&& (2147483647 : Int32)) % (5 : Int32))), .val (.int ((x3 &&& (2147483647 : Int32)) % (5 : Int32))), .val (.int (1 : Int32)), .val (.int (1 : Int32)), .val (.ref b29), .val (.ref b38), .val (.int ((x4 &&& (2147483647 : Int32)) % (3 : Int32))), .val .null, .unset, .unset, .unset]) rfl k_) ?_
          show own_Goes p e below (T44.setTop (mkF m 153 #[.val (.int x0), .val (.int x1), .val (.int x2), .val (.int x3), .val (.int x4), .val (.ref b1), .val (.ref b9), .val (.ref b17), .val (.int ((x1 &&& (2147483647 : Int32)) % (5 : Int32))), .val (.int ((x3 &&& (2147483647 : Int32)) % (5 : Int32))), .val (.int (1 : Int32)), .val (.int (1 : Int32)), .val (.ref b29), .val (.ref b38), .val (.int ((x4 &&& (2147483647 : Int32)) % (3 : Int32))), .val .null, .unset, .unset, .unset] [])) _
          refine own_go (fun t_ k_ => XS.goto X44.here hx rfl (pc0 := 153) (pc' := 170) rfl (hb hby at_153) (by decide) (by decide) k_) ?_
          show own_Goes p e below (T44.setTop (mkF m 170 #[.val (.int x0), .val (.int x1), .val (.int x2), .val (.int x3), .val (.int x4), .val (.ref b1), .val (.ref b9), .val (.ref b17), .val (.int ((x1 &&& (2147483647 : Int32)) % (5 : Int32))), .val (.int ((x3 &&& (2147483647 : Int32)) % (5 : Int32))), .val (.int (1 : Int32)), .val (.int (1 : Int32)), .val (.ref b29), .val (.ref b38), .val (.int ((x4 &&& (2147483647 : Int32)) % (3 : Int32))), .val .null, .unset, .unset, .unset] [])) _
          refine own_go (fun t_ k_ => XS.iload X44.here hx rfl (hb hby at_170) rfl k_) ?_
          show own_Goes p e below (T44.setTop (mkF m 172 #[.val (.int x0), .val (.int x1), .val (.int x2), .val (.int x3), .val (.int x4), .val (.ref b1), .val (.ref b9), .val (.ref b17), .val (.int ((x1 &&& (2147483647 : Int32)) % (5 : Int32))), .val (.int ((x3 &&& (2147483647 : Int32)) % (5 : Int32))), .val (.int (1 : Int32)), .val (.int (1 : Int32)), .val (.ref b29), .val (.ref b38), .val (.int ((x4 &&& (2147483647 : Int32)) % (3 : Int32))), .val .null, .unset, .unset, .unset] [(.int ((x4 &&& (2147483647 : Int32)) % (3 : Int32)))])) _
          refine own_go (fun t_ k_ => XS.ifYes X44.here hx rfl (pc0 := 172) (pc' := 193) rfl (hb hby at_172) rfl ((if0 _ _).trans (feq hc47).2) (by decide) (by decide) k_) ?_
          show own_Goes p e below (T44.setTop (mkF m 193 #[.val (.int x0), .val (.int x1), .val (.int x2), .val (.int x3), .val (.int x4), .val (.ref b1), .val (.ref b9), .val (.ref b17), .val (.int ((x1 &&& (2147483647 : Int32)) % (5 : Int32))), .val (.int ((x3 &&& (2147483647 : Int32)) % (5 : Int32))), .val (.int (1 : Int32)), .val (.int (1 : Int32)), .val (.ref b29), .val (.ref b38), .val (.int ((x4 &&& (2147483647 : Int32)) % (3 : Int32))), .val .null, .unset, .unset, .unset] [])) _
          refine own_go (fun t_ k_ => XS.iconst X44.here hx rfl (hb hby at_193) k_) ?_
          show own_Goes p e below (T44.setTop (mkF m 194 #[.val (.int x0), .val (.int x1), .val (.int x2), .val (.int x3), .val (.int x4), .val (.ref b1), .val (.ref b9), .val (.ref b17), .val (.int ((x1 &&& (2147483647 : Int32)) % (5 : Int32))), .val (.int ((x3 &&& (2147483647 : Int32)) % (5 : Int32))), .val (.int (1 : Int32)), .val (.int (1 : Int32)), .val (.ref b29), .val (.ref b38), .val (.int ((x4 &&& (2147483647 : Int32)) % (3 : Int32))), .val .null, .unset, .unset, .unset] [(.int (0 : Int32))])) _
          refine own_go (fun t_ k_ => XS.istore X44.here hx rfl (hb hby at_194) rfl (l' := #[.val (.int x0), .val (.int x1), .val (.int x2), .val (.int x3), .val (.int x4), .val (.ref b1), .val (.ref b9), .val (.ref b17), .val (.int ((x1 &&& (2147483647 : Int32)) % (5 : Int32))), .val (.int ((x3 &&& (2147483647 : Int32)) % (5 : Int32))), .val (.int (1 : Int32)), .val (.int (1 : Int32)), .val (.ref b29), .val (.ref b38), .val (.int ((x4 &&& (2147483647 : Int32)) % (3 : Int32))), .val .null, .val (.int (0 : Int32)), .unset, .unset]) rfl k_) ?_
          show own_Goes p e below (T44.setTop (mkF m 196 #[.val (.int x0), .val (.int x1), .val (.int x2), .val (.int x3), .val (.int x4), .val (.ref b1), .val (.ref b9), .val (.ref b17), .val (.int ((x1 &&& (2147483647 : Int32)) % (5 : Int32))), .val (.int ((x3 &&& (2147483647 : Int32)) % (5 : Int32))), .val (.int (1 : Int32)), .val (.int (1 : Int32)), .val (.ref b29), .val (.ref b38), .val (.int ((x4 &&& (2147483647 : Int32)) % (3 : Int32))), .val .null, .val (.int (0 : Int32)), .unset, .unset] [])) _
          refine own_go (fun t_ k_ => XS.aload X44.here hx rfl (hb hby at_196) rfl rfl k_) ?_
          show own_Goes p e below (T44.setTop (mkF m 198 #[.val (.int x0), .val (.int x1), .val (.int x2), .val (.int x3), .val (.int x4), .val (.ref b1), .val (.ref b9), .val (.ref b17), .val (.int ((x1 &&& (2147483647 : Int32)) % (5 : Int32))), .val (.int ((x3 &&& (2147483647 : Int32)) % (5 : Int32))), .val (.int (1 : Int32)), .val (.int (1 : Int32)), .val (.ref b29), .val (.ref b38), .val (.int ((x4 &&& (2147483647 : Int32)) % (3 : Int32))), .val .null, .val (.int (0 : Int32)), .unset, .unset] [(.ref b29)])) _
          refine own_go (fun t_ k_ => XS.aload X44.here hx rfl (hb hby at_198) rfl rfl k_) ?_
          show own_Goes p e below (T44.setTop (mkF m 200 #[.val (.int x0), .val (.int x1), .val (.int x2), .val (.int x3), .val (.int x4), .val (.ref b1), .val (.ref b9), .val (.ref b17), .val (.int ((x1 &&& (2147483647 : Int32)) % (5 : Int32))), .val (.int ((x3 &&& (2147483647 : Int32)) % (5 : Int32))), .val (.int (1 : Int32)), .val (.int (1 : Int32)), .val (.ref b29), .val (.ref b38), .val (.int ((x4 &&& (2147483647 : Int32)) % (3 : Int32))), .val .null, .val (.int (0 : Int32)), .unset, .unset] [.null, (.ref b29)])) _
          have f66 := (((A29.keep Kc35).ext E38).keep Kc44)
          obtain ⟨cqiv67, kqiv67, qiv67a, qiv67b, qiv67c⟩ := isOf hZ44 e44 f66
          obtain ⟨_, _, ⟨T68, L68, k68, n68⟩, -, X68, ⟨Lc68, hQ68, l68, y68, z68⟩, st68⟩ := X44.virtualBack hx (y := own_m14) (z := own_m14) hown44 (mvT hZ44 (hw _ (List.mem_of_getElem? (i := 72) rfl))) (mvT hZ44 (hw _ (List.mem_of_getElem? (i := 73) rfl))) (notFace_of_selects (args := #[]) (mvT hZ44 (hw _ (List.mem_of_getElem? (i := 75) rfl)))) (mvT hZ44 (hw _ (List.mem_of_getElem? (i := 75) rfl))) (mvT hZ44 (hw _ (List.mem_of_getElem? (i := 74) rfl))) (by decide) (backOf (W := 0) (own_eqN l Z a0 hw [] b29 h44 n0 O45) hZ44 (hw _ (List.mem_of_getElem? (i := 76) rfl)) (hw _ (List.mem_of_getElem? (i := 48) rfl)) (by decide) (by decide)) qiv67a qiv67c (g := (mkF m 200 #[.val (.int x0), .val (.int x1), .val (.int x2), .val (.int x3), .val (.int x4), .val (.ref b1), .val (.ref b9), .val (.ref b17), .val (.int ((x1 &&& (2147483647 : Int32)) % (5 : Int32))), .val (.int ((x3 &&& (2147483647 : Int32)) % (5 : Int32))), .val (.int (1 : Int32)), .val (.int (1 : Int32)), .val (.ref b29), .val (.ref b38), .val (.int ((x4 &&& (2147483647 : Int32)) % (3 : Int32))), .val .null, .val (.int (0 : Int32)), .unset, .unset] [.null, (.ref b29)])) rfl (by rw [hml]; rfl) (Steps.refl _) (argsL := [.null]) (rest := []) (lenOf own_pd_13 rfl) rfl (by show 2 * 0 + _ ≤ _; exact Nat.le_of_eq rfl) (hb hby at_200) (fun _ _ => ⟨rfl, e44, (by decide : 17 + 0 ≤ _), (by decide : 200 + 0 ≤ _)⟩)
          dsimp only [Pt.U, Pt.locs, Pt.cells, Pt.slots] at X68 l68 y68 z68 st68 hQ68
          subst l68 y68 z68
          obtain ⟨Nc68, e68, rfl⟩ := hQ68
          have N68 := Fr.app N44 Nc68
          refine own_goS st68 ?_
          show own_Goes p e below (T68.setTop (mkF m 203 #[.val (.int x0), .val (.int x1), .val (.int x2), .val (.int x3), .val (.int x4), .val (.ref b1), .val (.ref b9), .val (.ref b17), .val (.int ((x1 &&& (2147483647 : Int32)) % (5 : Int32))), .val (.int ((x3 &&& (2147483647 : Int32)) % (5 : Int32))), .val (.int (1 : Int32)), .val (.int (1 : Int32)), .val (.ref b29), .val (.ref b38), .val (.int ((x4 &&& (2147483647 : Int32)) % (3 : Int32))), .val .null, .val (.int (0 : Int32)), .unset, .unset] [(.int (0 : Int32))])) _
          refine own_go (fun t_ k_ => XS.istore X68.here hx rfl (hb hby at_203) rfl (l' := #[.val (.int x0), .val (.int x1), .val (.int x2), .val (.int x3), .val (.int x4), .val (.ref b1), .val (.ref b9), .val (.ref b17), .val (.int ((x1 &&& (2147483647 : Int32)) % (5 : Int32))), .val (.int ((x3 &&& (2147483647 : Int32)) % (5 : Int32))), .val (.int (1 : Int32)), .val (.int (1 : Int32)), .val (.ref b29), .val (.ref b38), .val (.int ((x4 &&& (2147483647 : Int32)) % (3 : Int32))), .val .null, .val (.int (0 : Int32)), .val (.int (0 : Int32)), .unset]) rfl k_) ?_
          show own_Goes p e below (T68.setTop (mkF m 205 #[.val (.int x0), .val (.int x1), .val (.int x2), .val (.int x3), .val (.int x4), .val (.ref b1), .val (.ref b9), .val (.ref b17), .val (.int ((x1 &&& (2147483647 : Int32)) % (5 : Int32))), .val (.int ((x3 &&& (2147483647 : Int32)) % (5 : Int32))), .val (.int (1 : Int32)), .val (.int (1 : Int32)), .val (.ref b29), .val (.ref b38), .val (.int ((x4 &&& (2147483647 : Int32)) % (3 : Int32))), .val .null, .val (.int (0 : Int32)), .val (.int (0 : Int32)), .unset] [])) _
          refine own_go (fun t_ k_ => XS.aload X68.here hx rfl (hb hby at_205) rfl rfl k_) ?_
          show own_Goes p e below (T68.setTop (mkF m 207 #[.val (.int x0), .val (.int x1), .val (.int x2), .val (.int x3), .val (.int x4), .val (.ref b1), .val (.ref b9), .val (.ref b17), .val (.int ((x1 &&& (2147483647 : Int32)) % (5 : Int32))), .val (.int ((x3 &&& (2147483647 : Int32)) % (5 : Int32))), .val (.int (1 : Int32)), .val (.int (1 : Int32)), .val (.ref b29), .val (.ref b38), .val (.int ((x4 &&& (2147483647 : Int32)) % (3 : Int32))), .val .null, .val (.int (0 : Int32)), .val (.int (0 : Int32)), .unset] [(.ref b29)])) _
          refine own_go (fun t_ k_ => XS.aload X68.here hx rfl (hb hby at_207) rfl rfl k_) ?_
          show own_Goes p e below (T68.setTop (mkF m 209 #[.val (.int x0), .val (.int x1), .val (.int x2), .val (.int x3), .val (.int x4), .val (.ref b1), .val (.ref b9), .val (.ref b17), .val (.int ((x1 &&& (2147483647 : Int32)) % (5 : Int32))), .val (.int ((x3 &&& (2147483647 : Int32)) % (5 : Int32))), .val (.int (1 : Int32)), .val (.int (1 : Int32)), .val (.ref b29), .val (.ref b38), .val (.int ((x4 &&& (2147483647 : Int32)) % (3 : Int32))), .val .null, .val (.int (0 : Int32)), .val (.int (0 : Int32)), .unset] [(.ref b29), (.ref b29)])) _
          have f69 := ((c35_0.ext E38).keep Kc44 (ninS (own_ne (a := b29) (b := b38) (by omega)) nin0))
          have f70 := ((c35_1.ext E38).keep Kc44 (ninS (own_ne (a := b29) (b := b38) (by omega)) nin0))
          obtain ⟨cqiv71, kqiv71, qiv71a, qiv71b, qiv71c⟩ := isOf hZ44 e68 f66
          obtain ⟨_, _, ⟨T72, L72, k72, n72⟩, -, X72, ⟨Lc72, hQ72, l72, y72, z72⟩, st72⟩ := X68.virtualBack hx (y := own_m14) (z := own_m14) hown44 (mvT hZ44 (hw _ (List.mem_of_getElem? (i := 72) rfl))) (mvT hZ44 (hw _ (List.mem_of_getElem? (i := 73) rfl))) (notFace_of_selects (args := #[]) (mvT hZ44 (hw _ (List.mem_of_getElem? (i := 75) rfl)))) (mvT hZ44 (hw _ (List.mem_of_getElem? (i := 75) rfl))) (mvT hZ44 (hw _ (List.mem_of_getElem? (i := 74) rfl))) (by decide) (backOf (W := 0) (own_eqT l Z a0 hw [] b29 b29 b9 b9 r_33 r_33 h44 n0 O45 f66 f69 f69 f70 f70 (show b9 = b9 from rfl) (show r_33 = r_33 from rfl)) hZ44 (hw _ (List.mem_of_getElem? (i := 76) rfl)) (hw _ (List.mem_of_getElem? (i := 48) rfl)) (by decide) (by decide)) qiv71a qiv71c (g := (mkF m 209 #[.val (.int x0), .val (.int x1), .val (.int x2), .val (.int x3), .val (.int x4), .val (.ref b1), .val (.ref b9), .val (.ref b17), .val (.int ((x1 &&& (2147483647 : Int32)) % (5 : Int32))), .val (.int ((x3 &&& (2147483647 : Int32)) % (5 : Int32))), .val (.int (1 : Int32)), .val (.int (1 : Int32)), .val (.ref b29), .val (.ref b38), .val (.int ((x4 &&& (2147483647 : Int32)) % (3 : Int32))), .val .null, .val (.int (0 : Int32)), .val (.int (0 : Int32)), .unset] [(.ref b29), (.ref b29)])) rfl (by rw [hml]; rfl) (Steps.refl _) (argsL := [(.ref b29)]) (rest := []) (lenOf own_pd_13 rfl) rfl (by show 2 * 0 + _ ≤ _; exact Nat.le_of_eq rfl) (hb hby at_209) (fun _ _ => ⟨rfl, e68, (by decide : 17 + 0 ≤ _), (by decide : 200 + 0 ≤ _)⟩)
          dsimp only [Pt.U, Pt.locs, Pt.cells, Pt.slots] at X72 l72 y72 z72 st72 hQ72
          subst l72 y72 z72
          obtain ⟨Nc72, e72, rfl⟩ := hQ72
          have N72 := Fr.app N68 Nc72
          refine own_goS st72 ?_
          show own_Goes p e below (T72.setTop (mkF m 212 #[.val (.int x0), .val (.int x1), .val (.int x2), .val (.int x3), .val (.int x4), .val (.ref b1), .val (.ref b9), .val (.ref b17), .val (.int ((x1 &&& (2147483647 : Int32)) % (5 : Int32))), .val (.int ((x3 &&& (2147483647 : Int32)) % (5 : Int32))), .val (.int (1 : Int32)), .val (.int (1 : Int32)), .val (.ref b29), .val (.ref b38), .val (.int ((x4 &&& (2147483647 : Int32)) % (3 : Int32))), .val .null, .val (.int (0 : Int32)), .val (.int (0 : Int32)), .unset] [(.int (1 : Int32))])) _
          refine own_go (fun t_ k_ => XS.istore X72.here hx rfl (hb hby at_212) rfl (l' := #[.val (.int x0), .val (.int x1), .val (.int x2), .val (.int x3), .val (.int x4), .val (.ref b1), .val (.ref b9), .val (.ref b17), .val (.int ((x1 &&& (2147483647 : Int32)) % (5 : Int32))), .val (.int ((x3 &&& (2147483647 : Int32)) % (5 : Int32))), .val (.int (1 : Int32)), .val (.int (1 : Int32)), .val (.ref b29), .val (.ref b38), .val (.int ((x4 &&& (2147483647 : Int32)) % (3 : Int32))), .val .null, .val (.int (0 : Int32)), .val (.int (0 : Int32)), .val (.int (1 : Int32))]) rfl k_) ?_
          show own_Goes p e below (T72.setTop (mkF m 214 #[.val (.int x0), .val (.int x1), .val (.int x2), .val (.int x3), .val (.int x4), .val (.ref b1), .val (.ref b9), .val (.ref b17), .val (.int ((x1 &&& (2147483647 : Int32)) % (5 : Int32))), .val (.int ((x3 &&& (2147483647 : Int32)) % (5 : Int32))), .val (.int (1 : Int32)), .val (.int (1 : Int32)), .val (.ref b29), .val (.ref b38), .val (.int ((x4 &&& (2147483647 : Int32)) % (3 : Int32))), .val .null, .val (.int (0 : Int32)), .val (.int (0 : Int32)), .val (.int (1 : Int32))] [])) _
          refine own_go (fun t_ k_ => XS.iload X72.here hx rfl (hb hby at_214) rfl k_) ?_
          show own_Goes p e below (T72.setTop (mkF m 216 #[.val (.int x0), .val (.int x1), .val (.int x2), .val (.int x3), .val (.int x4), .val (.ref b1), .val (.ref b9), .val (.ref b17), .val (.int ((x1 &&& (2147483647 : Int32)) % (5 : Int32))), .val (.int ((x3 &&& (2147483647 : Int32)) % (5 : Int32))), .val (.int (1 : Int32)), .val (.int (1 : Int32)), .val (.ref b29), .val (.ref b38), .val (.int ((x4 &&& (2147483647 : Int32)) % (3 : Int32))), .val .null, .val (.int (0 : Int32)), .val (.int (0 : Int32)), .val (.int (1 : Int32))] [(.int (0 : Int32))])) _
          refine own_go (fun t_ k_ => XS.iload X72.here hx rfl (hb hby at_216) rfl k_) ?_
          show own_Goes p e below (T72.setTop (mkF m 218 #[.val (.int x0), .val (.int x1), .val (.int x2), .val (.int x3), .val (.int x4), .val (.ref b1), .val (.ref b9), .val (.ref b17), .val (.int ((x1 &&& (2147483647 : Int32)) % (5 : Int32))), .val (.int ((x3 &&& (2147483647 : Int32)) % (5 : Int32))), .val (.int (1 : Int32)), .val (.int (1 : Int32)), .val (.ref b29), .val (.ref b38), .val (.int ((x4 &&& (2147483647 : Int32)) % (3 : Int32))), .val .null, .val (.int (0 : Int32)), .val (.int (0 : Int32)), .val (.int (1 : Int32))] [(.int (0 : Int32)), (.int (0 : Int32))])) _
          refine own_go (fun t_ k_ => XS.icmpNo X72.here hx rfl (hb hby at_218) rfl (teq (show ((0 : Int32) = (0 : Int32)) from by decide)).2 k_) ?_
          show own_Goes p e below (T72.setTop (mkF m 221 #[.val (.int x0), .val (.int x1), .val (.int x2), .val (.int x3), .val (.int x4), .val (.ref b1), .val (.ref b9), .val (.ref b17), .val (.int ((x1 &&& (2147483647 : Int32)) % (5 : Int32))), .val (.int ((x3 &&& (2147483647 : Int32)) % (5 : Int32))), .val (.int (1 : Int32)), .val (.int (1 : Int32)), .val (.ref b29), .val (.ref b38), .val (.int ((x4 &&& (2147483647 : Int32)) % (3 : Int32))), .val .null, .val (.int (0 : Int32)), .val (.int (0 : Int32)), .val (.int (1 : Int32))] [])) _
          refine own_go (fun t_ k_ => XS.iload X72.here hx rfl (hb hby at_221) rfl k_) ?_
          show own_Goes p e below (T72.setTop (mkF m 223 #[.val (.int x0), .val (.int x1), .val (.int x2), .val (.int x3), .val (.int x4), .val (.ref b1), .val (.ref b9), .val (.ref b17), .val (.int ((x1 &&& (2147483647 : Int32)) % (5 : Int32))), .val (.int ((x3 &&& (2147483647 : Int32)) % (5 : Int32))), .val (.int (1 : Int32)), .val (.int (1 : Int32)), .val (.ref b29), .val (.ref b38), .val (.int ((x4 &&& (2147483647 : Int32)) % (3 : Int32))), .val .null, .val (.int (0 : Int32)), .val (.int (0 : Int32)), .val (.int (1 : Int32))] [(.int (1 : Int32))])) _
          refine own_go (fun t_ k_ => XS.ifNo X72.here hx rfl (hb hby at_223) rfl ((if0 _ _).trans (feq (show ¬ ((1 : Int32) = (0 : Int32)) from by decide)).1) k_) ?_
          show own_Goes p e below (T72.setTop (mkF m 226 #[.val (.int x0), .val (.int x1), .val (.int x2), .val (.int x3), .val (.int x4), .val (.ref b1), .val (.ref b9), .val (.ref b17), .val (.int ((x1 &&& (2147483647 : Int32)) % (5 : Int32))), .val (.int ((x3 &&& (2147483647 : Int32)) % (5 : Int32))), .val (.int (1 : Int32)), .val (.int (1 : Int32)), .val (.ref b29), .val (.ref b38), .val (.int ((x4 &&& (2147483647 : Int32)) % (3 : Int32))), .val .null, .val (.int (0 : Int32)), .val (.int (0 : Int32)), .val (.int (1 : Int32))] [])) _
          refine own_go (fun t_ k_ => XS.iconst X72.here hx rfl (hb hby at_226) k_) ?_
          show own_Goes p e below (T72.setTop (mkF m 227 #[.val (.int x0), .val (.int x1), .val (.int x2), .val (.int x3), .val (.int x4), .val (.ref b1), .val (.ref b9), .val (.ref b17), .val (.int ((x1 &&& (2147483647 : Int32)) % (5 : Int32))), .val (.int ((x3 &&& (2147483647 : Int32)) % (5 : Int32))), .val (.int (1 : Int32)), .val (.int (1 : Int32)), .val (.ref b29), .val (.ref b38), .val (.int ((x4 &&& (2147483647 : Int32)) % (3 : Int32))), .val .null, .val (.int (0 : Int32)), .val (.int (0 : Int32)), .val (.int (1 : Int32))] [(.int (1 : Int32))])) _
          refine own_go (fun t_ k_ => XS.goto X72.here hx rfl (pc0 := 227) (pc' := 231) rfl (hb hby at_227) (by decide) (by decide) k_) ?_
          show own_Goes p e below (T72.setTop (mkF m 231 #[.val (.int x0), .val (.int x1), .val (.int x2), .val (.int x3), .val (.int x4), .val (.ref b1), .val (.ref b9), .val (.ref b17), .val (.int ((x1 &&& (2147483647 : Int32)) % (5 : Int32))), .val (.int ((x3 &&& (2147483647 : Int32)) % (5 : Int32))), .val (.int (1 : Int32)), .val (.int (1 : Int32)), .val (.ref b29), .val (.ref b38), .val (.int ((x4 &&& (2147483647 : Int32)) % (3 : Int32))), .val .null, .val (.int (0 : Int32)), .val (.int (0 : Int32)), .val (.int (1 : Int32))] [(.int (1 : Int32))])) _
          refine own_endW X72 hS44 (show _ ≤ T72.heap.size by rw [e72]; exact hk44) (v := (some (.int (1 : Int32)))) (fun h => by rw [hret] at h; cases h) hlk (by decide) (by decide) ?_ (fun fs hr => retOut X72 hx hret rfl (Or.inl ⟨rfl, Or.inr (Or.inl rfl), _, rfl⟩) (hb hby at_231) hr)
          show Q_rm0 Z x0 x1 x2 x3 x4 gw0 gw1 gw2 gw3 gw4 h0 n0 _ T72.heap _
          rw [e72]
          exact ⟨N72, trivial, rfl⟩
        · refine own_go (fun t_ k_ => XS.icmpYes X44.here hx rfl (pc0 := 147) (pc' := 156) rfl (hb hby at_147) rfl (feq hc65).2 (by decide) (by decide) k_) ?_
          show own_Goes p e below (T44.setTop (mkF m 156 #[.val (.int x0), .val (.int x1), .val (.int x2), .val (.int x3), .val (.int x4), .val (.ref b1), .val (.ref b9), .val (.ref b17), .val (.int ((x1 &&& (2147483647 : Int32)) % (5 : Int32))), .val (.int ((x3 &&& (2147483647 : Int32)) % (5 : Int32))), .val (.int (1 : Int32)), .val (.int (1 : Int32)), .val (.ref b29), .val (.ref b38), .val (.int ((x4 &&& (2147483647 : Int32)) % (3 : Int32))), .unset, .unset, .unset, .unset] [])) _
          refine own_go (fun t_ k_ => XS.iload X44.here hx rfl (hb hby at_156) rfl k_) ?_
          show own_Goes p e below (T44.setTop (mkF m 158 #[.val (.int x0), .val (.int x1), .val (.int x2), .val (.int x3), .val (.int x4), .val (.ref b1), .val (.ref b9), .val (.ref b17), .val (.int ((x1 &&& (2147483647 : Int32)) % (5 : Int32))), .val (.int ((x3 &&& (2147483647 : Int32)) % (5 : Int32))), .val (.int (1 : Int32)), .val (.int (1 : Int32)), .val (.ref b29), .val (.ref b38), .val (.int ((x4 &&& (2147483647 : Int32)) % (3 : Int32))), .unset, .unset, .unset, .unset] [(.int (1 : Int32))])) _
          refine own_go (fun t_ k_ => XS.ifNo X44.here hx rfl (hb hby at_158) rfl ((if0 _ _).trans (feq (show ¬ ((1 : Int32) = (0 : Int32)) from by decide)).1) k_) ?_
          show own_Goes p e below (T44.setTop (mkF m 161 #[.val (.int x0), .val (.int x1), .val (.int x2), .val (.int x3), .val (.int x4), .val (.ref b1), .val (.ref b9), .val (.ref b17), .val (.int ((x1 &&& (2147483647 : Int32)) % (5 : Int32))), .val (.int ((x3 &&& (2147483647 : Int32)) % (5 : Int32))), .val (.int (1 : Int32)), .val (.int (1 : Int32)), .val (.ref b29), .val (.ref b38), .val (.int ((x4 &&& (2147483647 : Int32)) % (3 : Int32))), .unset, .unset, .unset, .unset] [])) _
          refine own_go (fun t_ k_ => XS.aload X44.here hx rfl (hb hby at_161) rfl rfl k_) ?_
          show own_Goes p e below (T44.setTop (mkF m 163 #[.val (.int x0), .val (.int x1), .val (.int x2), .val (.int x3), .val (.int x4), .val (.ref b1), .val (.ref b9), .val (.ref b17), .val (.int ((x1 &&& (2147483647 : Int32)) % (5 : Int32))), .val (.int ((x3 &&& (2147483647 : Int32)) % (5 : Int32))), .val (.int (1 : Int32)), .val (.int (1 : Int32)), .val (.ref b29), .val (.ref b38), .val (.int ((x4 &&& (2147483647 : Int32)) % (3 : Int32))), .unset, .unset, .unset, .unset] [(.ref b9)])) _
          refine own_go (fun t_ k_ => XS.goto X44.here hx rfl (pc0 := 163) (pc' := 168) rfl (hb hby at_163) (by decide) (by decide) k_) ?_
          show own_Goes p e below (T44.setTop (mkF m 168 #[.val (.int x0), .val (.int x1), .val (.int x2), .val (.int x3), .val (.int x4), .val (.ref b1), .val (.ref b9), .val (.ref b17), .val (.int ((x1 &&& (2147483647 : Int32)) % (5 : Int32))), .val (.int ((x3 &&& (2147483647 : Int32)) % (5 : Int32))), .val (.int (1 : Int32)), .val (.int (1 : Int32)), .val (.ref b29), .val (.ref b38), .val (.int ((x4 &&& (2147483647 : Int32)) % (3 : Int32))), .unset, .unset, .unset, .unset] [(.ref b9)])) _
          refine own_go (fun t_ k_ => XS.astore X44.here hx rfl (hb hby at_168) rfl rfl (l' := #[.val (.int x0), .val (.int x1), .val (.int x2), .val (.int x3), .val (.int x4), .val (.ref b1), .val (.ref b9), .val (.ref b17), .val (.int ((x1 &&& (2147483647 : Int32)) % (5 : Int32))), .val (.int ((x3 &&& (2147483647 : Int32)) % (5 : Int32))), .val (.int (1 : Int32)), .val (.int (1 : Int32)), .val (.ref b29), .val (.ref b38), .val (.int ((x4 &&& (2147483647 : Int32)) % (3 : Int32))), .val (.ref b9), .unset, .unset, .unset]) rfl k_) ?_
          show own_Goes p e below (T44.setTop (mkF m 170 #[.val (.int x0), .val (.int x1), .val (.int x2), .val (.int x3), .val (.int x4), .val (.ref b1), .val (.ref b9), .val (.ref b17), .val (.int ((x1 &&& (2147483647 : Int32)) % (5 : Int32))), .val (.int ((x3 &&& (2147483647 : Int32)) % (5 : Int32))), .val (.int (1 : Int32)), .val (.int (1 : Int32)), .val (.ref b29), .val (.ref b38), .val (.int ((x4 &&& (2147483647 : Int32)) % (3 : Int32))), .val (.ref b9), .unset, .unset, .unset] [])) _
          refine own_go (fun t_ k_ => XS.iload X44.here hx rfl (hb hby at_170) rfl k_) ?_
          show own_Goes p e below (T44.setTop (mkF m 172 #[.val (.int x0), .val (.int x1), .val (.int x2), .val (.int x3), .val (.int x4), .val (.ref b1), .val (.ref b9), .val (.ref b17), .val (.int ((x1 &&& (2147483647 : Int32)) % (5 : Int32))), .val (.int ((x3 &&& (2147483647 : Int32)) % (5 : Int32))), .val (.int (1 : Int32)), .val (.int (1 : Int32)), .val (.ref b29), .val (.ref b38), .val (.int ((x4 &&& (2147483647 : Int32)) % (3 : Int32))), .val (.ref b9), .unset, .unset, .unset] [(.int ((x4 &&& (2147483647 : Int32)) % (3 : Int32)))])) _
          refine own_go (fun t_ k_ => XS.ifYes X44.here hx rfl (pc0 := 172) (pc' := 193) rfl (hb hby at_172) rfl ((if0 _ _).trans (feq hc47).2) (by decide) (by decide) k_) ?_
          show own_Goes p e below (T44.setTop (mkF m 193 #[.val (.int x0), .val (.int x1), .val (.int x2), .val (.int x3), .val (.int x4), .val (.ref b1), .val (.ref b9), .val (.ref b17), .val (.int ((x1 &&& (2147483647 : Int32)) % (5 : Int32))), .val (.int ((x3 &&& (2147483647 : Int32)) % (5 : Int32))), .val (.int (1 : Int32)), .val (.int (1 : Int32)), .val (.ref b29), .val (.ref b38), .val (.int ((x4 &&& (2147483647 : Int32)) % (3 : Int32))), .val (.ref b9), .unset, .unset, .unset] [])) _
          refine own_go (fun t_ k_ => XS.iconst X44.here hx rfl (hb hby at_193) k_) ?_
          show own_Goes p e below (T44.setTop (mkF m 194 #[.val (.int x0), .val (.int x1), .val (.int x2), .val (.int x3), .val (.int x4), .val (.ref b1), .val (.ref b9), .val (.ref b17), .val (.int ((x1 &&& (2147483647 : Int32)) % (5 : Int32))), .val (.int ((x3 &&& (2147483647 : Int32)) % (5 : Int32))), .val (.int (1 : Int32)), .val (.int (1 : Int32)), .val (.ref b29), .val (.ref b38), .val (.int ((x4 &&& (2147483647 : Int32)) % (3 : Int32))), .val (.ref b9), .unset, .unset, .unset] [(.int (0 : Int32))])) _
          refine own_go (fun t_ k_ => XS.istore X44.here hx rfl (hb hby at_194) rfl (l' := #[.val (.int x0), .val (.int x1), .val (.int x2), .val (.int x3), .val (.int x4), .val (.ref b1), .val (.ref b9), .val (.ref b17), .val (.int ((x1 &&& (2147483647 : Int32)) % (5 : Int32))), .val (.int ((x3 &&& (2147483647 : Int32)) % (5 : Int32))), .val (.int (1 : Int32)), .val (.int (1 : Int32)), .val (.ref b29), .val (.ref b38), .val (.int ((x4 &&& (2147483647 : Int32)) % (3 : Int32))), .val (.ref b9), .val (.int (0 : Int32)), .unset, .unset]) rfl k_) ?_
          show own_Goes p e below (T44.setTop (mkF m 196 #[.val (.int x0), .val (.int x1), .val (.int x2), .val (.int x3), .val (.int x4), .val (.ref b1), .val (.ref b9), .val (.ref b17), .val (.int ((x1 &&& (2147483647 : Int32)) % (5 : Int32))), .val (.int ((x3 &&& (2147483647 : Int32)) % (5 : Int32))), .val (.int (1 : Int32)), .val (.int (1 : Int32)), .val (.ref b29), .val (.ref b38), .val (.int ((x4 &&& (2147483647 : Int32)) % (3 : Int32))), .val (.ref b9), .val (.int (0 : Int32)), .unset, .unset] [])) _
          refine own_go (fun t_ k_ => XS.aload X44.here hx rfl (hb hby at_196) rfl rfl k_) ?_
          show own_Goes p e below (T44.setTop (mkF m 198 #[.val (.int x0), .val (.int x1), .val (.int x2), .val (.int x3), .val (.int x4), .val (.ref b1), .val (.ref b9), .val (.ref b17), .val (.int ((x1 &&& (2147483647 : Int32)) % (5 : Int32))), .val (.int ((x3 &&& (2147483647 : Int32)) % (5 : Int32))), .val (.int (1 : Int32)), .val (.int (1 : Int32)), .val (.ref b29), .val (.ref b38), .val (.int ((x4 &&& (2147483647 : Int32)) % (3 : Int32))), .val (.ref b9), .val (.int (0 : Int32)), .unset, .unset] [(.ref b29)])) _
          refine own_go (fun t_ k_ => XS.aload X44.here hx rfl (hb hby at_198) rfl rfl k_) ?_
          show own_Goes p e below (T44.setTop (mkF m 200 #[.val (.int x0), .val (.int x1), .val (.int x2), .val (.int x3), .val (.int x4), .val (.ref b1), .val (.ref b9), .val (.ref b17), .val (.int ((x1 &&& (2147483647 : Int32)) % (5 : Int32))), .val (.int ((x3 &&& (2147483647 : Int32)) % (5 : Int32))), .val (.int (1 : Int32)), .val (.int (1 : Int32)), .val (.ref b29), .val (.ref b38), .val (.int ((x4 &&& (2147483647 : Int32)) % (3 : Int32))), .val (.ref b9), .val (.int (0 : Int32)), .unset, .unset] [(.ref b9), (.ref b29)])) _
          have f73 := (f43.keep Kc44)
          have f74 := (((A29.keep Kc35).ext E38).keep Kc44)
          obtain ⟨cqiv75, kqiv75, qiv75a, qiv75b, qiv75c⟩ := isOf hZ44 e44 f74
          obtain ⟨_, _, ⟨T76, L76, k76, n76⟩, -, X76, ⟨Lc76, hQ76, l76, y76, z76⟩, st76⟩ := X44.virtualBack hx (y := own_m14) (z := own_m14) hown44 (mvT hZ44 (hw _ (List.mem_of_getElem? (i := 72) rfl))) (mvT hZ44 (hw _ (List.mem_of_getElem? (i := 73) rfl))) (notFace_of_selects (args := #[]) (mvT hZ44 (hw _ (List.mem_of_getElem? (i := 75) rfl)))) (mvT hZ44 (hw _ (List.mem_of_getElem? (i := 75) rfl))) (mvT hZ44 (hw _ (List.mem_of_getElem? (i := 74) rfl))) (by decide) (backOf (W := 0) (own_eqO l Z a0 hw [] b29 b9 h44 n0 O45 f73) hZ44 (hw _ (List.mem_of_getElem? (i := 76) rfl)) (hw _ (List.mem_of_getElem? (i := 48) rfl)) (by decide) (by decide)) qiv75a qiv75c (g := (mkF m 200 #[.val (.int x0), .val (.int x1), .val (.int x2), .val (.int x3), .val (.int x4), .val (.ref b1), .val (.ref b9), .val (.ref b17), .val (.int ((x1 &&& (2147483647 : Int32)) % (5 : Int32))), .val (.int ((x3 &&& (2147483647 : Int32)) % (5 : Int32))), .val (.int (1 : Int32)), .val (.int (1 : Int32)), .val (.ref b29), .val (.ref b38), .val (.int ((x4 &&& (2147483647 : Int32)) % (3 : Int32))), .val (.ref b9), .val (.int (0 : Int32)), .unset, .unset] [(.ref b9), (.ref b29)])) rfl (by rw [hml]; rfl) (Steps.refl _) (argsL := [(.ref b9)]) (rest := []) (lenOf own_pd_13 rfl) rfl (by show 2 * 0 + _ ≤ _; exact Nat.le_of_eq rfl) (hb hby at_200) (fun _ _ => ⟨rfl, e44, (by decide : 17 + 0 ≤ _), (by decide : 200 + 0 ≤ _)⟩)
          dsimp only [Pt.U, Pt.locs, Pt.cells, Pt.slots] at X76 l76 y76 z76 st76 hQ76
          subst l76 y76 z76
          obtain ⟨Nc76, e76, rfl⟩ := hQ76
          have N76 := Fr.app N44 Nc76
          refine own_goS st76 ?_
          show own_Goes p e below (T76.setTop (mkF m 203 #[.val (.int x0), .val (.int x1), .val (.int x2), .val (.int x3), .val (.int x4), .val (.ref b1), .val (.ref b9), .val (.ref b17), .val (.int ((x1 &&& (2147483647 : Int32)) % (5 : Int32))), .val (.int ((x3 &&& (2147483647 : Int32)) % (5 : Int32))), .val (.int (1 : Int32)), .val (.int (1 : Int32)), .val (.ref b29), .val (.ref b38), .val (.int ((x4 &&& (2147483647 : Int32)) % (3 : Int32))), .val (.ref b9), .val (.int (0 : Int32)), .unset, .unset] [(.int (0 : Int32))])) _
          refine own_go (fun t_ k_ => XS.istore X76.here hx rfl (hb hby at_203) rfl (l' := #[.val (.int x0), .val (.int x1), .val (.int x2), .val (.int x3), .val (.int x4), .val (.ref b1), .val (.ref b9), .val (.ref b17), .val (.int ((x1 &&& (2147483647 : Int32)) % (5 : Int32))), .val (.int ((x3 &&& (2147483647 : Int32)) % (5 : Int32))), .val (.int (1 : Int32)), .val (.int (1 : Int32)), .val (.ref b29), .val (.ref b38), .val (.int ((x4 &&& (2147483647 : Int32)) % (3 : Int32))), .val (.ref b9), .val (.int (0 : Int32)), .val (.int (0 : Int32)), .unset]) rfl k_) ?_
          show own_Goes p e below (T76.setTop (mkF m 205 #[.val (.int x0), .val (.int x1), .val (.int x2), .val (.int x3), .val (.int x4), .val (.ref b1), .val (.ref b9), .val (.ref b17), .val (.int ((x1 &&& (2147483647 : Int32)) % (5 : Int32))), .val (.int ((x3 &&& (2147483647 : Int32)) % (5 : Int32))), .val (.int (1 : Int32)), .val (.int (1 : Int32)), .val (.ref b29), .val (.ref b38), .val (.int ((x4 &&& (2147483647 : Int32)) % (3 : Int32))), .val (.ref b9), .val (.int (0 : Int32)), .val (.int (0 : Int32)), .unset] [])) _
          refine own_go (fun t_ k_ => XS.aload X76.here hx rfl (hb hby at_205) rfl rfl k_) ?_
          show own_Goes p e below (T76.setTop (mkF m 207 #[.val (.int x0), .val (.int x1), .val (.int x2), .val (.int x3), .val (.int x4), .val (.ref b1), .val (.ref b9), .val (.ref b17), .val (.int ((x1 &&& (2147483647 : Int32)) % (5 : Int32))), .val (.int ((x3 &&& (2147483647 : Int32)) % (5 : Int32))), .val (.int (1 : Int32)), .val (.int (1 : Int32)), .val (.ref b29), .val (.ref b38), .val (.int ((x4 &&& (2147483647 : Int32)) % (3 : Int32))), .val (.ref b9), .val (.int (0 : Int32)), .val (.int (0 : Int32)), .unset] [(.ref b29)])) _
          refine own_go (fun t_ k_ => XS.aload X76.here hx rfl (hb hby at_207) rfl rfl k_) ?_
          show own_Goes p e below (T76.setTop (mkF m 209 #[.val (.int x0), .val (.int x1), .val (.int x2), .val (.int x3), .val (.int x4), .val (.ref b1), .val (.ref b9), .val (.ref b17), .val (.int ((x1 &&& (2147483647 : Int32)) % (5 : Int32))), .val (.int ((x3 &&& (2147483647 : Int32)) % (5 : Int32))), .val (.int (1 : Int32)), .val (.int (1 : Int32)), .val (.ref b29), .val (.ref b38), .val (.int ((x4 &&& (2147483647 : Int32)) % (3 : Int32))), .val (.ref b9), .val (.int (0 : Int32)), .val (.int (0 : Int32)), .unset] [(.ref b29), (.ref b29)])) _
          have f77 := ((c35_0.ext E38).keep Kc44 (ninS (own_ne (a := b29) (b := b38) (by omega)) nin0))
          have f78 := ((c35_1.ext E38).keep Kc44 (ninS (own_ne (a := b29) (b := b38) (by omega)) nin0))
          obtain ⟨cqiv79, kqiv79, qiv79a, qiv79b, qiv79c⟩ := isOf hZ44 e76 f74
          obtain ⟨_, _, ⟨T80, L80, k80, n80⟩, -, X80, ⟨Lc80, hQ80, l80, y80, z80⟩, st80⟩ := X76.virtualBack hx (y := own_m14) (z := own_m14) hown44 (mvT hZ44 (hw _ (List.mem_of_getElem? (i := 72) rfl))) (mvT hZ44 (hw _ (List.mem_of_getElem? (i := 73) rfl))) (notFace_of_selects (args := #[]) (mvT hZ44 (hw _ (List.mem_of_getElem? (i := 75) rfl)))) (mvT hZ44 (hw _ (List.mem_of_getElem? (i := 75) rfl))) (mvT hZ44 (hw _ (List.mem_of_getElem? (i := 74) rfl))) (by decide) (backOf (W := 0) (own_eqT l Z a0 hw [] b29 b29 b9 b9 r_33 r_33 h44 n0 O45 f74 f77 f77 f78 f78 (show b9 = b9 from rfl) (show r_33 = r_33 from rfl)) hZ44 (hw _ (List.mem_of_getElem? (i := 76) rfl)) (hw _ (List.mem_of_getElem? (i := 48) rfl)) (by decide) (by decide)) qiv79a qiv79c (g := (mkF m 209 #[.val (.int x0), .val (.int x1), .val (.int x2), .val (.int x3), .val (.int x4), .val (.ref b1), .val (.ref b9), .val (.ref b17), .val (.int ((x1 &&& (2147483647 : Int32)) % (5 : Int32))), .val (.int ((x3 &&& (2147483647 : Int32)) % (5 : Int32))), .val (.int (1 : Int32)), .val (.int (1 : Int32)), .val (.ref b29), .val (.ref b38), .val (.int ((x4 &&& (2147483647 : Int32)) % (3 : Int32))), .val (.ref b9), .val (.int (0 : Int32)), .val (.int (0 : Int32)), .unset] [(.ref b29), (.ref b29)])) rfl (by rw [hml]; rfl) (Steps.refl _) (argsL := [(.ref b29)]) (rest := []) (lenOf own_pd_13 rfl) rfl (by show 2 * 0 + _ ≤ _; exact Nat.le_of_eq rfl) (hb hby at_209) (fun _ _ => ⟨rfl, e76, (by decide : 17 + 0 ≤ _), (by decide : 200 + 0 ≤ _)⟩)
          dsimp only [Pt.U, Pt.locs, Pt.cells, Pt.slots] at X80 l80 y80 z80 st80 hQ80
          subst l80 y80 z80
          obtain ⟨Nc80, e80, rfl⟩ := hQ80
          have N80 := Fr.app N76 Nc80
          refine own_goS st80 ?_
          show own_Goes p e below (T80.setTop (mkF m 212 #[.val (.int x0), .val (.int x1), .val (.int x2), .val (.int x3), .val (.int x4), .val (.ref b1), .val (.ref b9), .val (.ref b17), .val (.int ((x1 &&& (2147483647 : Int32)) % (5 : Int32))), .val (.int ((x3 &&& (2147483647 : Int32)) % (5 : Int32))), .val (.int (1 : Int32)), .val (.int (1 : Int32)), .val (.ref b29), .val (.ref b38), .val (.int ((x4 &&& (2147483647 : Int32)) % (3 : Int32))), .val (.ref b9), .val (.int (0 : Int32)), .val (.int (0 : Int32)), .unset] [(.int (1 : Int32))])) _
          refine own_go (fun t_ k_ => XS.istore X80.here hx rfl (hb hby at_212) rfl (l' := #[.val (.int x0), .val (.int x1), .val (.int x2), .val (.int x3), .val (.int x4), .val (.ref b1), .val (.ref b9), .val (.ref b17), .val (.int ((x1 &&& (2147483647 : Int32)) % (5 : Int32))), .val (.int ((x3 &&& (2147483647 : Int32)) % (5 : Int32))), .val (.int (1 : Int32)), .val (.int (1 : Int32)), .val (.ref b29), .val (.ref b38), .val (.int ((x4 &&& (2147483647 : Int32)) % (3 : Int32))), .val (.ref b9), .val (.int (0 : Int32)), .val (.int (0 : Int32)), .val (.int (1 : Int32))]) rfl k_) ?_
          show own_Goes p e below (T80.setTop (mkF m 214 #[.val (.int x0), .val (.int x1), .val (.int x2), .val (.int x3), .val (.int x4), .val (.ref b1), .val (.ref b9), .val (.ref b17), .val (.int ((x1 &&& (2147483647 : Int32)) % (5 : Int32))), .val (.int ((x3 &&& (2147483647 : Int32)) % (5 : Int32))), .val (.int (1 : Int32)), .val (.int (1 : Int32)), .val (.ref b29), .val (.ref b38), .val (.int ((x4 &&& (2147483647 : Int32)) % (3 : Int32))), .val (.ref b9), .val (.int (0 : Int32)), .val (.int (0 : Int32)), .val (.int (1 : Int32))] [])) _
          refine own_go (fun t_ k_ => XS.iload X80.here hx rfl (hb hby at_214) rfl k_) ?_
          show own_Goes p e below (T80.setTop (mkF m 216 #[.val (.int x0), .val (.int x1), .val (.int x2), .val (.int x3), .val (.int x4), .val (.ref b1), .val (.ref b9), .val (.ref b17), .val (.int ((x1 &&& (2147483647 : Int32)) % (5 : Int32))), .val (.int ((x3 &&& (2147483647 : Int32)) % (5 : Int32))), .val (.int (1 : Int32)), .val (.int (1 : Int32)), .val (.ref b29), .val (.ref b38), .val (.int ((x4 &&& (2147483647 : Int32)) % (3 : Int32))), .val (.ref b9), .val (.int (0 : Int32)), .val (.int (0 : Int32)), .val (.int (1 : Int32))] [(.int (0 : Int32))])) _
          refine own_go (fun t_ k_ => XS.iload X80.here hx rfl (hb hby at_216) rfl k_) ?_
          show own_Goes p e below (T80.setTop (mkF m 218 #[.val (.int x0), .val (.int x1), .val (.int x2), .val (.int x3), .val (.int x4), .val (.ref b1), .val (.ref b9), .val (.ref b17), .val (.int ((x1 &&& (2147483647 : Int32)) % (5 : Int32))), .val (.int ((x3 &&& (2147483647 : Int32)) % (5 : Int32))), .val (.int (1 : Int32)), .val (.int (1 : Int32)), .val (.ref b29), .val (.ref b38), .val (.int ((x4 &&& (2147483647 : Int32)) % (3 : Int32))), .val (.ref b9), .val (.int (0 : Int32)), .val (.int (0 : Int32)), .val (.int (1 : Int32))] [(.int (0 : Int32)), (.int (0 : Int32))])) _
          refine own_go (fun t_ k_ => XS.icmpNo X80.here hx rfl (hb hby at_218) rfl (teq (show ((0 : Int32) = (0 : Int32)) from by decide)).2 k_) ?_
          show own_Goes p e below (T80.setTop (mkF m 221 #[.val (.int x0), .val (.int x1), .val (.int x2), .val (.int x3), .val (.int x4), .val (.ref b1), .val (.ref b9), .val (.ref b17), .val (.int ((x1 &&& (2147483647 : Int32)) % (5 : Int32))), .val (.int ((x3 &&& (2147483647 : Int32)) % (5 : Int32))), .val (.int (1 : Int32)), .val (.int (1 : Int32)), .val (.ref b29), .val (.ref b38), .val (.int ((x4 &&& (2147483647 : Int32)) % (3 : Int32))), .val (.ref b9), .val (.int (0 : Int32)), .val (.int (0 : Int32)), .val (.int (1 : Int32))] [])) _
          refine own_go (fun t_ k_ => XS.iload X80.here hx rfl (hb hby at_221) rfl k_) ?_
          show own_Goes p e below (T80.setTop (mkF m 223 #[.val (.int x0), .val (.int x1), .val (.int x2), .val (.int x3), .val (.int x4), .val (.ref b1), .val (.ref b9), .val (.ref b17), .val (.int ((x1 &&& (2147483647 : Int32)) % (5 : Int32))), .val (.int ((x3 &&& (2147483647 : Int32)) % (5 : Int32))), .val (.int (1 : Int32)), .val (.int (1 : Int32)), .val (.ref b29), .val (.ref b38), .val (.int ((x4 &&& (2147483647 : Int32)) % (3 : Int32))), .val (.ref b9), .val (.int (0 : Int32)), .val (.int (0 : Int32)), .val (.int (1 : Int32))] [(.int (1 : Int32))])) _
          refine own_go (fun t_ k_ => XS.ifNo X80.here hx rfl (hb hby at_223) rfl ((if0 _ _).trans (feq (show ¬ ((1 : Int32) = (0 : Int32)) from by decide)).1) k_) ?_
          show own_Goes p e below (T80.setTop (mkF m 226 #[.val (.int x0), .val (.int x1), .val (.int x2), .val (.int x3), .val (.int x4), .val (.ref b1), .val (.ref b9), .val (.ref b17), .val (.int ((x1 &&& (2147483647 : Int32)) % (5 : Int32))), .val (.int ((x3 &&& (2147483647 : Int32)) % (5 : Int32))), .val (.int (1 : Int32)), .val (.int (1 : Int32)), .val (.ref b29), .val (.ref b38), .val (.int ((x4 &&& (2147483647 : Int32)) % (3 : Int32))), .val (.ref b9), .val (.int (0 : Int32)), .val (.int (0 : Int32)), .val (.int (1 : Int32))] [])) _
          refine own_go (fun t_ k_ => XS.iconst X80.here hx rfl (hb hby at_226) k_) ?_
          show own_Goes p e below (T80.setTop (mkF m 227 #[.val (.int x0), .val (.int x1), .val (.int x2), .val (.int x3), .val (.int x4), .val (.ref b1), .val (.ref b9), .val (.ref b17), .val (.int ((x1 &&& (2147483647 : Int32)) % (5 : Int32))), .val (.int ((x3 &&& (2147483647 : Int32)) % (5 : Int32))), .val (.int (1 : Int32)), .val (.int (1 : Int32)), .val (.ref b29), .val (.ref b38), .val (.int ((x4 &&& (2147483647 : Int32)) % (3 : Int32))), .val (.ref b9), .val (.int (0 : Int32)), .val (.int (0 : Int32)), .val (.int (1 : Int32))] [(.int (1 : Int32))])) _
          refine own_go (fun t_ k_ => XS.goto X80.here hx rfl (pc0 := 227) (pc' := 231) rfl (hb hby at_227) (by decide) (by decide) k_) ?_
          show own_Goes p e below (T80.setTop (mkF m 231 #[.val (.int x0), .val (.int x1), .val (.int x2), .val (.int x3), .val (.int x4), .val (.ref b1), .val (.ref b9), .val (.ref b17), .val (.int ((x1 &&& (2147483647 : Int32)) % (5 : Int32))), .val (.int ((x3 &&& (2147483647 : Int32)) % (5 : Int32))), .val (.int (1 : Int32)), .val (.int (1 : Int32)), .val (.ref b29), .val (.ref b38), .val (.int ((x4 &&& (2147483647 : Int32)) % (3 : Int32))), .val (.ref b9), .val (.int (0 : Int32)), .val (.int (0 : Int32)), .val (.int (1 : Int32))] [(.int (1 : Int32))])) _
          refine own_endW X80 hS44 (show _ ≤ T80.heap.size by rw [e80]; exact hk44) (v := (some (.int (1 : Int32)))) (fun h => by rw [hret] at h; cases h) hlk (by decide) (by decide) ?_ (fun fs hr => retOut X80 hx hret rfl (Or.inl ⟨rfl, Or.inr (Or.inl rfl), _, rfl⟩) (hb hby at_231) hr)
          show Q_rm0 Z x0 x1 x2 x3 x4 gw0 gw1 gw2 gw3 gw4 h0 n0 _ T80.heap _
          rw [e80]
          exact ⟨N80, trivial, rfl⟩
    · refine own_go (fun t_ k_ => XS.ifYes X26.here hx rfl (pc0 := 61) (pc' := 68) rfl (hb hby at_61) rfl ((if0 _ _).trans (feq hc28).2) (by decide) (by decide) k_) ?_
      show own_Goes p e below (T26.setTop (mkF m 68 #[.val (.int x0), .val (.int x1), .val (.int x2), .val (.int x3), .val (.int x4), .val (.ref b1), .val (.ref b9), .val (.ref b17), .val (.int ((x1 &&& (2147483647 : Int32)) % (5 : Int32))), .val (.int ((x3 &&& (2147483647 : Int32)) % (5 : Int32))), .val (.int (1 : Int32)), .unset, .unset, .unset, .unset, .unset, .unset, .unset, .unset] [])) _
      refine own_go (fun t_ k_ => XS.iconst X26.here hx rfl (hb hby at_68) k_) ?_
      show own_Goes p e below (T26.setTop (mkF m 69 #[.val (.int x0), .val (.int x1), .val (.int x2), .val (.int x3), .val (.int x4), .val (.ref b1), .val (.ref b9), .val (.ref b17), .val (.int ((x1 &&& (2147483647 : Int32)) % (5 : Int32))), .val (.int ((x3 &&& (2147483647 : Int32)) % (5 : Int32))), .val (.int (1 : Int32)), .unset, .unset, .unset, .unset, .unset, .unset, .unset, .unset] [(.int (0 : Int32))])) _
      refine own_go (fun t_ k_ => XS.istore X26.here hx rfl (hb hby at_69) rfl (l' := #[.val (.int x0), .val (.int x1), .val (.int x2), .val (.int x3), .val (.int x4), .val (.ref b1), .val (.ref b9), .val (.ref b17), .val (.int ((x1 &&& (2147483647 : Int32)) % (5 : Int32))), .val (.int ((x3 &&& (2147483647 : Int32)) % (5 : Int32))), .val (.int (1 : Int32)), .val (.int (0 : Int32)), .unset, .unset, .unset, .unset, .unset, .unset, .unset]) rfl k_) ?_
      show own_Goes p e below (T26.setTop (mkF m 71 #[.val (.int x0), .val (.int x1), .val (.int x2), .val (.int x3), .val (.int x4), .val (.ref b1), .val (.ref b9), .val (.ref b17), .val (.int ((x1 &&& (2147483647 : Int32)) % (5 : Int32))), .val (.int ((x3 &&& (2147483647 : Int32)) % (5 : Int32))), .val (.int (1 : Int32)), .val (.int (0 : Int32)), .unset, .unset, .unset, .unset, .unset, .unset, .unset] [])) _
      obtain ⟨T81, h81, X81, e81, E81, A81, D81, -, st81⟩ := newO X26 hx hZ22 hown22 (hw _ (List.mem_of_getElem? (i := 46) rfl)) (hw _ (List.mem_of_getElem? (i := 47) rfl)) (hw _ (List.mem_of_getElem? (i := 48) rfl)) e26 (g := (mkF m 71 #[.val (.int x0), .val (.int x1), .val (.int x2), .val (.int x3), .val (.int x4), .val (.ref b1), .val (.ref b9), .val (.ref b17), .val (.int ((x1 &&& (2147483647 : Int32)) % (5 : Int32))), .val (.int ((x3 &&& (2147483647 : Int32)) % (5 : Int32))), .val (.int (1 : Int32)), .val (.int (0 : Int32)), .unset, .unset, .unset, .unset, .unset, .unset, .unset] [])) rfl (hb hby at_71) (by decide) (by decide)
      obtain ⟨b81, g81⟩ : ∃ z, z = h22.size := ⟨_, rfl⟩
      rw [← g81] at A81 D81 st81
      refine own_go st81 ?_
      have O82 := O23.ext E81
      have sz83 : h22.size ≤ h81.size := E81.1
      have hk84 := Nat.le_trans hk22 E81.1
      have l81 : b81 < h81.size := A81.lt
      have F81_process : Fld Z h81 b81 "com/example/breach_or_proof/breachorproof/analysis/PathStep" "process" "Lcom/example/breach_or_proof/breachorproof/Process;" .null := D81 (Or.inr (hw _ (List.mem_of_getElem? (i := 64) rfl))) (ty := (.object "com/example/breach_or_proof/breachorproof/Process")) (by decide)
      have F81_branch : Fld Z h81 b81 "com/example/breach_or_proof/breachorproof/analysis/PathStep" "branch" "Lcom/example/breach_or_proof/breachorproof/analysis/PathStep$Branch;" .null := D81 (Or.inr (hw _ (List.mem_of_getElem? (i := 69) rfl))) (ty := (.object "com/example/breach_or_proof/breachorproof/analysis/PathStep$Branch")) (by decide)
      show own_Goes p e below (T81.setTop (mkF m 74 #[.val (.int x0), .val (.int x1), .val (.int x2), .val (.int x3), .val (.int x4), .val (.ref b1), .val (.ref b9), .val (.ref b17), .val (.int ((x1 &&& (2147483647 : Int32)) % (5 : Int32))), .val (.int ((x3 &&& (2147483647 : Int32)) % (5 : Int32))), .val (.int (1 : Int32)), .val (.int (0 : Int32)), .unset, .unset, .unset, .unset, .unset, .unset, .unset] [(.ref b81)])) _
      refine own_go (fun t_ k_ => XS.dup X81.here hx rfl (hb hby at_74) rfl rfl k_) ?_
      show own_Goes p e below (T81.setTop (mkF m 75 #[.val (.int x0), .val (.int x1), .val (.int x2), .val (.int x3), .val (.int x4), .val (.ref b1), .val (.ref b9), .val (.ref b17), .val (.int ((x1 &&& (2147483647 : Int32)) % (5 : Int32))), .val (.int ((x3 &&& (2147483647 : Int32)) % (5 : Int32))), .val (.int (1 : Int32)), .val (.int (0 : Int32)), .unset, .unset, .unset, .unset, .unset, .unset, .unset] [(.ref b81), (.ref b81)])) _
      refine own_go (fun t_ k_ => XS.iload X81.here hx rfl (hb hby at_75) rfl k_) ?_
      show own_Goes p e below (T81.setTop (mkF m 77 #[.val (.int x0), .val (.int x1), .val (.int x2), .val (.int x3), .val (.int x4), .val (.ref b1), .val (.ref b9), .val (.ref b17), .val (.int ((x1 &&& (2147483647 : Int32)) % (5 : Int32))), .val (.int ((x3 &&& (2147483647 : Int32)) % (5 : Int32))), .val (.int (1 : Int32)), .val (.int (0 : Int32)), .unset, .unset, .unset, .unset, .unset, .unset, .unset] [(.int (1 : Int32)), (.ref b81), (.ref b81)])) _
      refine own_go (fun t_ k_ => XS.ifNo X81.here hx rfl (hb hby at_77) rfl ((if0 _ _).trans (feq (show ¬ ((1 : Int32) = (0 : Int32)) from by decide)).1) k_) ?_
      show own_Goes p e below (T81.setTop (mkF m 80 #[.val (.int x0), .val (.int x1), .val (.int x2), .val (.int x3), .val (.int x4), .val (.ref b1), .val (.ref b9), .val (.ref b17), .val (.int ((x1 &&& (2147483647 : Int32)) % (5 : Int32))), .val (.int ((x3 &&& (2147483647 : Int32)) % (5 : Int32))), .val (.int (1 : Int32)), .val (.int (0 : Int32)), .unset, .unset, .unset, .unset, .unset, .unset, .unset] [(.ref b81), (.ref b81)])) _
      refine own_go (fun t_ k_ => XS.aload X81.here hx rfl (hb hby at_80) rfl rfl k_) ?_
      show own_Goes p e below (T81.setTop (mkF m 82 #[.val (.int x0), .val (.int x1), .val (.int x2), .val (.int x3), .val (.int x4), .val (.ref b1), .val (.ref b9), .val (.ref b17), .val (.int ((x1 &&& (2147483647 : Int32)) % (5 : Int32))), .val (.int ((x3 &&& (2147483647 : Int32)) % (5 : Int32))), .val (.int (1 : Int32)), .val (.int (0 : Int32)), .unset, .unset, .unset, .unset, .unset, .unset, .unset] [(.ref b9), (.ref b81), (.ref b81)])) _
      refine own_go (fun t_ k_ => XS.goto X81.here hx rfl (pc0 := 82) (pc' := 87) rfl (hb hby at_82) (by decide) (by decide) k_) ?_
      show own_Goes p e below (T81.setTop (mkF m 87 #[.val (.int x0), .val (.int x1), .val (.int x2), .val (.int x3), .val (.int x4), .val (.ref b1), .val (.ref b9), .val (.ref b17), .val (.int ((x1 &&& (2147483647 : Int32)) % (5 : Int32))), .val (.int ((x3 &&& (2147483647 : Int32)) % (5 : Int32))), .val (.int (1 : Int32)), .val (.int (0 : Int32)), .unset, .unset, .unset, .unset, .unset, .unset, .unset] [(.ref b9), (.ref b81), (.ref b81)])) _
      refine own_go (fun t_ k_ => XS.iload X81.here hx rfl (hb hby at_87) rfl k_) ?_
      show own_Goes p e below (T81.setTop (mkF m 89 #[.val (.int x0), .val (.int x1), .val (.int x2), .val (.int x3), .val (.int x4), .val (.ref b1), .val (.ref b9), .val (.ref b17), .val (.int ((x1 &&& (2147483647 : Int32)) % (5 : Int32))), .val (.int ((x3 &&& (2147483647 : Int32)) % (5 : Int32))), .val (.int (1 : Int32)), .val (.int (0 : Int32)), .unset, .unset, .unset, .unset, .unset, .unset, .unset] [(.int ((x1 &&& (2147483647 : Int32)) % (5 : Int32))), (.ref b9), (.ref b81), (.ref b81)])) _
      obtain ⟨_, _, ⟨T85, L85, k85, n85⟩, -, X85, ⟨Lc85, hQ85, l85, y85, z85⟩, st85⟩ := Jvm.LawKit.callS X81 hx (y := own_m10) hown22 (mvT hZ22 (hw _ (List.mem_of_getElem? (i := 49) rfl))) (mvT hZ22 (hw _ (List.mem_of_getElem? (i := 50) rfl))) (mvT hZ22 (hw _ (List.mem_of_getElem? (i := 43) rfl))) (mvT hZ22 (hw _ (List.mem_of_getElem? (i := 51) rfl))) (by decide) (backOf (W := 3) (own_branch l Z a0 hw [] ((x1 &&& (2147483647 : Int32)) % (5 : Int32)) h81 n0 O82 gw0 gw1 gw2 gw3 gw4 G (show 0 ≤ ((x1 &&& (2147483647 : Int32)) % (5 : Int32)).toInt ∧ ((x1 &&& (2147483647 : Int32)) % (5 : Int32)).toInt < 5 from (own_rng _))) hZ22 (hw _ (List.mem_of_getElem? (i := 51) rfl)) (hw _ (List.mem_of_getElem? (i := 43) rfl)) (by decide) (by decide)) (g := (mkF m 89 #[.val (.int x0), .val (.int x1), .val (.int x2), .val (.int x3), .val (.int x4), .val (.ref b1), .val (.ref b9), .val (.ref b17), .val (.int ((x1 &&& (2147483647 : Int32)) % (5 : Int32))), .val (.int ((x3 &&& (2147483647 : Int32)) % (5 : Int32))), .val (.int (1 : Int32)), .val (.int (0 : Int32)), .unset, .unset, .unset, .unset, .unset, .unset, .unset] [(.int ((x1 &&& (2147483647 : Int32)) % (5 : Int32))), (.ref b9), (.ref b81), (.ref b81)])) rfl (by rw [hml]; rfl) (argsL := [(.int ((x1 &&& (2147483647 : Int32)) % (5 : Int32)))]) (rest := [(.ref b9), (.ref b81), (.ref b81)]) (lenOf own_pd_9 rfl) rfl (by show 2 * 0 + _ ≤ _; exact Nat.le_of_eq rfl) (hb hby at_89) (fun _ _ => ⟨rfl, e81, (by decide : 8 + 0 ≤ _), (by decide : 78 + 0 ≤ _)⟩)
      dsimp only [Pt.U, Pt.locs, Pt.cells, Pt.slots] at X85 l85 y85 z85 st85 hQ85
      subst l85 y85 z85
      obtain ⟨Nc85, e85, r_85, rfl, c85_0, c85_1, c85_2⟩ := hQ85
      rw [e85] at c85_0
      have N85 := Fr.app N26 Nc85
      have ltc85_0 : r_85 < h81.size := c85_0.lt
      refine own_go st85 ?_
      show own_Goes p e below (T85.setTop (mkF m 92 #[.val (.int x0), .val (.int x1), .val (.int x2), .val (.int x3), .val (.int x4), .val (.ref b1), .val (.ref b9), .val (.ref b17), .val (.int ((x1 &&& (2147483647 : Int32)) % (5 : Int32))), .val (.int ((x3 &&& (2147483647 : Int32)) % (5 : Int32))), .val (.int (1 : Int32)), .val (.int (0 : Int32)), .unset, .unset, .unset, .unset, .unset, .unset, .unset] [(.ref r_85), (.ref b9), (.ref b81), (.ref b81)])) _
      have f86 := ((((A9.keep Kc14).ext E17).keep Kc22).ext E81)
      obtain ⟨_, _, ⟨T87, L87, k87, n87⟩, -, X87, hS87, gr87, ⟨Lc87, hQ87, l87, y87, z87⟩, st87⟩ := X85.specialBackS hx (y := own_m12) rfl hown22 (mvT hZ22 (hw _ (List.mem_of_getElem? (i := 55) rfl))) (mvT hZ22 (hw _ (List.mem_of_getElem? (i := 56) rfl))) (mvT hZ22 (hw _ (List.mem_of_getElem? (i := 57) rfl))) (by decide) (backOfS (W := 1) (own_psInit l Z a0 hw [] b81 b9 r_85 h81 n0 O82 A81 F81_process F81_branch f86 c85_0 (show n0 ≤ b81 by first | assumption | omega | decide)) hZ22 (hw _ (List.mem_of_getElem? (i := 57) rfl)) (hw _ (List.mem_of_getElem? (i := 48) rfl)) (by decide) (by decide)) (g := (mkF m 92 #[.val (.int x0), .val (.int x1), .val (.int x2), .val (.int x3), .val (.int x4), .val (.ref b1), .val (.ref b9), .val (.ref b17), .val (.int ((x1 &&& (2147483647 : Int32)) % (5 : Int32))), .val (.int ((x3 &&& (2147483647 : Int32)) % (5 : Int32))), .val (.int (1 : Int32)), .val (.int (0 : Int32)), .unset, .unset, .unset, .unset, .unset, .unset, .unset] [(.ref r_85), (.ref b9), (.ref b81), (.ref b81)])) rfl (by rw [hml]; rfl) (Steps.refl _) (a := b81) (argsL := [(.ref b9), (.ref r_85)]) (rest := [(.ref b81)]) (lenOf own_pd_11 rfl) rfl (by show 2 * 0 + _ ≤ _; exact Nat.le_of_eq rfl) (hb hby at_92) (fun _ _ => ⟨rfl, e85, (by decide : 8 + 4 ≤ _), (by decide : 78 + 60 ≤ _)⟩)
      dsimp only [Pt.U, Pt.locs, Pt.cells, Pt.slots] at X87 l87 y87 z87 st87 hQ87 hS87 gr87
      subst l87 y87 z87
      obtain ⟨h87, e87⟩ : ∃ z, T87.heap = z := ⟨_, rfl⟩
      rw [e87] at hQ87 hS87 gr87
      obtain ⟨Nc87, Kc87, rfl, c87_0, c87_1⟩ := hQ87
      obtain ⟨X87, hS87, hZ87, hown87⟩ := rebS (own := "com/example/breach_or_proof/breachorproof/analysis/PathStepEqualsPinLaw") hS22 (show _ ≤ T85.heap.size by rw [e85]; exact hk84) X87 hS87 gr87 hZ22 hown22
      have hk87 : h87.size ≤ h87.size := Nat.le_refl _
      have N87 := Fr.app N85 Nc87
      have O88 := O82.keep Kc87 (allS (show n0 ≤ b81 by omega) all0)
      have sz89 : h81.size ≤ h87.size := Kc87.1
      refine own_goS st87 ?_
      show own_Goes p e below (T87.setTop (mkF m 95 #[.val (.int x0), .val (.int x1), .val (.int x2), .val (.int x3), .val (.int x4), .val (.ref b1), .val (.ref b9), .val (.ref b17), .val (.int ((x1 &&& (2147483647 : Int32)) % (5 : Int32))), .val (.int ((x3 &&& (2147483647 : Int32)) % (5 : Int32))), .val (.int (1 : Int32)), .val (.int (0 : Int32)), .unset, .unset, .unset, .unset, .unset, .unset, .unset] [(.ref b81)])) _
      refine own_go (fun t_ k_ => XS.astore X87.here hx rfl (hb hby at_95) rfl rfl (l' := #[.val (.int x0), .val (.int x1), .val (.int x2), .val (.int x3), .val (.int x4), .val (.ref b1), .val (.ref b9), .val (.ref b17), .val (.int ((x1 &&& (2147483647 : Int32)) % (5 : Int32))), .val (.int ((x3 &&& (2147483647 : Int32)) % (5 : Int32))), .val (.int (1 : Int32)), .val (.int (0 : Int32)), .val (.ref b81), .unset, .unset, .unset, .unset, .unset, .unset]) rfl k_) ?_
      show own_Goes p e below (T87.setTop (mkF m 97 #[.val (.int x0), .val (.int x1), .val (.int x2), .val (.int x3), .val (.int x4), .val (.ref b1), .val (.ref b9), .val (.ref b17), .val (.int ((x1 &&& (2147483647 : Int32)) % (5 : Int32))), .val (.int ((x3 &&& (2147483647 : Int32)) % (5 : Int32))), .val (.int (1 : Int32)), .val (.int (0 : Int32)), .val (.ref b81), .unset, .unset, .unset, .unset, .unset, .unset] [])) _
      obtain ⟨T90, h90, X90, e90, E90, A90, D90, -, st90⟩ := newO X87 hx hZ87 hown87 (hw _ (List.mem_of_getElem? (i := 46) rfl)) (hw _ (List.mem_of_getElem? (i := 47) rfl)) (hw _ (List.mem_of_getElem? (i := 48) rfl)) e87 (g := (mkF m 97 #[.val (.int x0), .val (.int x1), .val (.int x2), .val (.int x3), .val (.int x4), .val (.ref b1), .val (.ref b9), .val (.ref b17), .val (.int ((x1 &&& (2147483647 : Int32)) % (5 : Int32))), .val (.int ((x3 &&& (2147483647 : Int32)) % (5 : Int32))), .val (.int (1 : Int32)), .val (.int (0 : Int32)), .val (.ref b81), .unset, .unset, .unset, .unset, .unset, .unset] [])) rfl (hb hby at_97) (by decide) (by decide)
      obtain ⟨b90, g90⟩ : ∃ z, z = h87.size := ⟨_, rfl⟩
      rw [← g90] at A90 D90 st90
      refine own_go st90 ?_
      have O91 := O88.ext E90
      have sz92 : h87.size ≤ h90.size := E90.1
      have hk93 := Nat.le_trans hk87 E90.1
      have l90 : b90 < h90.size := A90.lt
      have F90_process : Fld Z h90 b90 "com/example/breach_or_proof/breachorproof/analysis/PathStep" "process" "Lcom/example/breach_or_proof/breachorproof/Process;" .null := D90 (Or.inr (hw _ (List.mem_of_getElem? (i := 64) rfl))) (ty := (.object "com/example/breach_or_proof/breachorproof/Process")) (by decide)
      have F90_branch : Fld Z h90 b90 "com/example/breach_or_proof/breachorproof/analysis/PathStep" "branch" "Lcom/example/breach_or_proof/breachorproof/analysis/PathStep$Branch;" .null := D90 (Or.inr (hw _ (List.mem_of_getElem? (i := 69) rfl))) (ty := (.object "com/example/breach_or_proof/breachorproof/analysis/PathStep$Branch")) (by decide)
      show own_Goes p e below (T90.setTop (mkF m 100 #[.val (.int x0), .val (.int x1), .val (.int x2), .val (.int x3), .val (.int x4), .val (.ref b1), .val (.ref b9), .val (.ref b17), .val (.int ((x1 &&& (2147483647 : Int32)) % (5 : Int32))), .val (.int ((x3 &&& (2147483647 : Int32)) % (5 : Int32))), .val (.int (1 : Int32)), .val (.int (0 : Int32)), .val (.ref b81), .unset, .unset, .unset, .unset, .unset, .unset] [(.ref b90)])) _
      refine own_go (fun t_ k_ => XS.dup X90.here hx rfl (hb hby at_100) rfl rfl k_) ?_
      show own_Goes p e below (T90.setTop (mkF m 101 #[.val (.int x0), .val (.int x1), .val (.int x2), .val (.int x3), .val (.int x4), .val (.ref b1), .val (.ref b9), .val (.ref b17), .val (.int ((x1 &&& (2147483647 : Int32)) % (5 : Int32))), .val (.int ((x3 &&& (2147483647 : Int32)) % (5 : Int32))), .val (.int (1 : Int32)), .val (.int (0 : Int32)), .val (.ref b81), .unset, .unset, .unset, .unset, .unset, .unset] [(.ref b90), (.ref b90)])) _
      refine own_go (fun t_ k_ => XS.iload X90.here hx rfl (hb hby at_101) rfl k_) ?_
      show own_Goes p e below (T90.setTop (mkF m 103 #[.val (.int x0), .val (.int x1), .val (.int x2), .val (.int x3), .val (.int x4), .val (.ref b1), .val (.ref b9), .val (.ref b17), .val (.int ((x1 &&& (2147483647 : Int32)) % (5 : Int32))), .val (.int ((x3 &&& (2147483647 : Int32)) % (5 : Int32))), .val (.int (1 : Int32)), .val (.int (0 : Int32)), .val (.ref b81), .unset, .unset, .unset, .unset, .unset, .unset] [(.int (0 : Int32)), (.ref b90), (.ref b90)])) _
      refine own_go (fun t_ k_ => XS.ifYes X90.here hx rfl (pc0 := 103) (pc' := 111) rfl (hb hby at_103) rfl ((if0 _ _).trans (teq (show ((0 : Int32) = (0 : Int32)) from by decide)).1) (by decide) (by decide) k_) ?_
      show own_Goes p e below (T90.setTop (mkF m 111 #[.val (.int x0), .val (.int x1), .val (.int x2), .val (.int x3), .val (.int x4), .val (.ref b1), .val (.ref b9), .val (.ref b17), .val (.int ((x1 &&& (2147483647 : Int32)) % (5 : Int32))), .val (.int ((x3 &&& (2147483647 : Int32)) % (5 : Int32))), .val (.int (1 : Int32)), .val (.int (0 : Int32)), .val (.ref b81), .unset, .unset, .unset, .unset, .unset, .unset] [(.ref b90), (.ref b90)])) _
      refine own_go (fun t_ k_ => XS.aload X90.here hx rfl (hb hby at_111) rfl rfl k_) ?_
      show own_Goes p e below (T90.setTop (mkF m 113 #[.val (.int x0), .val (.int x1), .val (.int x2), .val (.int x3), .val (.int x4), .val (.ref b1), .val (.ref b9), .val (.ref b17), .val (.int ((x1 &&& (2147483647 : Int32)) % (5 : Int32))), .val (.int ((x3 &&& (2147483647 : Int32)) % (5 : Int32))), .val (.int (1 : Int32)), .val (.int (0 : Int32)), .val (.ref b81), .unset, .unset, .unset, .unset, .unset, .unset] [(.ref b17), (.ref b90), (.ref b90)])) _
      refine own_go (fun t_ k_ => XS.iload X90.here hx rfl (hb hby at_113) rfl k_) ?_
      show own_Goes p e below (T90.setTop (mkF m 115 #[.val (.int x0), .val (.int x1), .val (.int x2), .val (.int x3), .val (.int x4), .val (.ref b1), .val (.ref b9), .val (.ref b17), .val (.int ((x1 &&& (2147483647 : Int32)) % (5 : Int32))), .val (.int ((x3 &&& (2147483647 : Int32)) % (5 : Int32))), .val (.int (1 : Int32)), .val (.int (0 : Int32)), .val (.ref b81), .unset, .unset, .unset, .unset, .unset, .unset] [(.int ((x3 &&& (2147483647 : Int32)) % (5 : Int32))), (.ref b17), (.ref b90), (.ref b90)])) _
      obtain ⟨_, _, ⟨T94, L94, k94, n94⟩, -, X94, ⟨Lc94, hQ94, l94, y94, z94⟩, st94⟩ := Jvm.LawKit.callS X90 hx (y := own_m10) hown87 (mvT hZ87 (hw _ (List.mem_of_getElem? (i := 49) rfl))) (mvT hZ87 (hw _ (List.mem_of_getElem? (i := 50) rfl))) (mvT hZ87 (hw _ (List.mem_of_getElem? (i := 43) rfl))) (mvT hZ87 (hw _ (List.mem_of_getElem? (i := 51) rfl))) (by decide) (backOf (W := 3) (own_branch l Z a0 hw [] ((x3 &&& (2147483647 : Int32)) % (5 : Int32)) h90 n0 O91 gw0 gw1 gw2 gw3 gw4 G (show 0 ≤ ((x3 &&& (2147483647 : Int32)) % (5 : Int32)).toInt ∧ ((x3 &&& (2147483647 : Int32)) % (5 : Int32)).toInt < 5 from (own_rng _))) hZ87 (hw _ (List.mem_of_getElem? (i := 51) rfl)) (hw _ (List.mem_of_getElem? (i := 43) rfl)) (by decide) (by decide)) (g := (mkF m 115 #[.val (.int x0), .val (.int x1), .val (.int x2), .val (.int x3), .val (.int x4), .val (.ref b1), .val (.ref b9), .val (.ref b17), .val (.int ((x1 &&& (2147483647 : Int32)) % (5 : Int32))), .val (.int ((x3 &&& (2147483647 : Int32)) % (5 : Int32))), .val (.int (1 : Int32)), .val (.int (0 : Int32)), .val (.ref b81), .unset, .unset, .unset, .unset, .unset, .unset] [(.int ((x3 &&& (2147483647 : Int32)) % (5 : Int32))), (.ref b17), (.ref b90), (.ref b90)])) rfl (by rw [hml]; rfl) (argsL := [(.int ((x3 &&& (2147483647 : Int32)) % (5 : Int32)))]) (rest := [(.ref b17), (.ref b90), (.ref b90)]) (lenOf own_pd_9 rfl) rfl (by show 2 * 0 + _ ≤ _; exact Nat.le_of_eq rfl) (hb hby at_115) (fun _ _ => ⟨rfl, e90, (by decide : 13 + 0 ≤ _), (by decide : 140 + 0 ≤ _)⟩)
      dsimp only [Pt.U, Pt.locs, Pt.cells, Pt.slots] at X94 l94 y94 z94 st94 hQ94
      subst l94 y94 z94
      obtain ⟨Nc94, e94, r_94, rfl, c94_0, c94_1, c94_2⟩ := hQ94
      rw [e94] at c94_0
      have N94 := Fr.app N87 Nc94
      have ltc94_0 : r_94 < h90.size := c94_0.lt
      refine own_go st94 ?_
      show own_Goes p e below (T94.setTop (mkF m 118 #[.val (.int x0), .val (.int x1), .val (.int x2), .val (.int x3), .val (.int x4), .val (.ref b1), .val (.ref b9), .val (.ref b17), .val (.int ((x1 &&& (2147483647 : Int32)) % (5 : Int32))), .val (.int ((x3 &&& (2147483647 : Int32)) % (5 : Int32))), .val (.int (1 : Int32)), .val (.int (0 : Int32)), .val (.ref b81), .unset, .unset, .unset, .unset, .unset, .unset] [(.ref r_94), (.ref b17), (.ref b90), (.ref b90)])) _
      have f95 := ((((A17.keep Kc22).ext E81).keep Kc87).ext E90)
      obtain ⟨_, _, ⟨T96, L96, k96, n96⟩, -, X96, hS96, gr96, ⟨Lc96, hQ96, l96, y96, z96⟩, st96⟩ := X94.specialBackS hx (y := own_m12) rfl hown87 (mvT hZ87 (hw _ (List.mem_of_getElem? (i := 55) rfl))) (mvT hZ87 (hw _ (List.mem_of_getElem? (i := 56) rfl))) (mvT hZ87 (hw _ (List.mem_of_getElem? (i := 57) rfl))) (by decide) (backOfS (W := 1) (own_psInit l Z a0 hw [] b90 b17 r_94 h90 n0 O91 A90 F90_process F90_branch f95 c94_0 (show n0 ≤ b90 by first | assumption | omega | decide)) hZ87 (hw _ (List.mem_of_getElem? (i := 57) rfl)) (hw _ (List.mem_of_getElem? (i := 48) rfl)) (by decide) (by decide)) (g := (mkF m 118 #[.val (.int x0), .val (.int x1), .val (.int x2), .val (.int x3), .val (.int x4), .val (.ref b1), .val (.ref b9), .val (.ref b17), .val (.int ((x1 &&& (2147483647 : Int32)) % (5 : Int32))), .val (.int ((x3 &&& (2147483647 : Int32)) % (5 : Int32))), .val (.int (1 : Int32)), .val (.int (0 : Int32)), .val (.ref b81), .unset, .unset, .unset, .unset, .unset, .unset] [(.ref r_94), (.ref b17), (.ref b90), (.ref b90)])) rfl (by rw [hml]; rfl) (Steps.refl _) (a := b90) (argsL := [(.ref b17), (.ref r_94)]) (rest := [(.ref b90)]) (lenOf own_pd_11 rfl) rfl (by show 2 * 0 + _ ≤ _; exact Nat.le_of_eq rfl) (hb hby at_118) (fun _ _ => ⟨rfl, e94, (by decide : 13 + 4 ≤ _), (by decide : 140 + 60 ≤ _)⟩)
      dsimp only [Pt.U, Pt.locs, Pt.cells, Pt.slots] at X96 l96 y96 z96 st96 hQ96 hS96 gr96
      subst l96 y96 z96
      obtain ⟨h96, e96⟩ : ∃ z, T96.heap = z := ⟨_, rfl⟩
      rw [e96] at hQ96 hS96 gr96
      obtain ⟨Nc96, Kc96, rfl, c96_0, c96_1⟩ := hQ96
      obtain ⟨X96, hS96, hZ96, hown96⟩ := rebS (own := "com/example/breach_or_proof/breachorproof/analysis/PathStepEqualsPinLaw") hS87 (show _ ≤ T94.heap.size by rw [e94]; exact hk93) X96 hS96 gr96 hZ87 hown87
      have hk96 : h96.size ≤ h96.size := Nat.le_refl _
      have N96 := Fr.app N94 Nc96
      have O97 := O91.keep Kc96 (allS (show n0 ≤ b90 by omega) all0)
      have sz98 : h90.size ≤ h96.size := Kc96.1
      refine own_goS st96 ?_
      show own_Goes p e below (T96.setTop (mkF m 121 #[.val (.int x0), .val (.int x1), .val (.int x2), .val (.int x3), .val (.int x4), .val (.ref b1), .val (.ref b9), .val (.ref b17), .val (.int ((x1 &&& (2147483647 : Int32)) % (5 : Int32))), .val (.int ((x3 &&& (2147483647 : Int32)) % (5 : Int32))), .val (.int (1 : Int32)), .val (.int (0 : Int32)), .val (.ref b81), .unset, .unset, .unset, .unset, .unset, .unset] [(.ref b90)])) _
      refine own_go (fun t_ k_ => XS.astore X96.here hx rfl (hb hby at_121) rfl rfl (l' := #[.val (.int x0), .val (.int x1), .val (.int x2), .val (.int x3), .val (.int x4), .val (.ref b1), .val (.ref b9), .val (.ref b17), .val (.int ((x1 &&& (2147483647 : Int32)) % (5 : Int32))), .val (.int ((x3 &&& (2147483647 : Int32)) % (5 : Int32))), .val (.int (1 : Int32)), .val (.int (0 : Int32)), .val (.ref b81), .val (.ref b90), .unset, .unset, .unset, .unset, .unset]) rfl k_) ?_
      show own_Goes p e below (T96.setTop (mkF m 123 #[.val (.int x0), .val (.int x1), .val (.int x2), .val (.int x3), .val (.int x4), .val (.ref b1), .val (.ref b9), .val (.ref b17), .val (.int ((x1 &&& (2147483647 : Int32)) % (5 : Int32))), .val (.int ((x3 &&& (2147483647 : Int32)) % (5 : Int32))), .val (.int (1 : Int32)), .val (.int (0 : Int32)), .val (.ref b81), .val (.ref b90), .unset, .unset, .unset, .unset, .unset] [])) _
      refine own_go (fun t_ k_ => XS.iload X96.here hx rfl (hb hby at_123) rfl k_) ?_
      show own_Goes p e below (T96.setTop (mkF m 125 #[.val (.int x0), .val (.int x1), .val (.int x2), .val (.int x3), .val (.int x4), .val (.ref b1), .val (.ref b9), .val (.ref b17), .val (.int ((x1 &&& (2147483647 : Int32)) % (5 : Int32))), .val (.int ((x3 &&& (2147483647 : Int32)) % (5 : Int32))), .val (.int (1 : Int32)), .val (.int (0 : Int32)), .val (.ref b81), .val (.ref b90), .unset, .unset, .unset, .unset, .unset] [(.int x4)])) _
      refine own_go (fun t_ k_ => Jvm.Stand.ldcI X96 hx hown96 (mv hZ96 (hw _ (List.mem_of_getElem? (i := 45) rfl))) rfl (hb hby at_125) k_) ?_
      show own_Goes p e below (T96.setTop (mkF m 127 #[.val (.int x0), .val (.int x1), .val (.int x2), .val (.int x3), .val (.int x4), .val (.ref b1), .val (.ref b9), .val (.ref b17), .val (.int ((x1 &&& (2147483647 : Int32)) % (5 : Int32))), .val (.int ((x3 &&& (2147483647 : Int32)) % (5 : Int32))), .val (.int (1 : Int32)), .val (.int (0 : Int32)), .val (.ref b81), .val (.ref b90), .unset, .unset, .unset, .unset, .unset] [(.int (2147483647 : Int32)), (.int x4)])) _
      refine own_go (fun t_ k_ => XS.iand X96.here hx rfl (hb hby at_127) rfl k_) ?_
      show own_Goes p e below (T96.setTop (mkF m 128 #[.val (.int x0), .val (.int x1), .val (.int x2), .val (.int x3), .val (.int x4), .val (.ref b1), .val (.ref b9), .val (.ref b17), .val (.int ((x1 &&& (2147483647 : Int32)) % (5 : Int32))), .val (.int ((x3 &&& (2147483647 : Int32)) % (5 : Int32))), .val (.int (1 : Int32)), .val (.int (0 : Int32)), .val (.ref b81), .val (.ref b90), .unset, .unset, .unset, .unset, .unset] [(.int (x4 &&& (2147483647 : Int32)))])) _
      refine own_go (fun t_ k_ => XS.iconst X96.here hx rfl (hb hby at_128) k_) ?_
      show own_Goes p e below (T96.setTop (mkF m 129 #[.val (.int x0), .val (.int x1), .val (.int x2), .val (.int x3), .val (.int x4), .val (.ref b1), .val (.ref b9), .val (.ref b17), .val (.int ((x1 &&& (2147483647 : Int32)) % (5 : Int32))), .val (.int ((x3 &&& (2147483647 : Int32)) % (5 : Int32))), .val (.int (1 : Int32)), .val (.int (0 : Int32)), .val (.ref b81), .val (.ref b90), .unset, .unset, .unset, .unset, .unset] [(.int (3 : Int32)), (.int (x4 &&& (2147483647 : Int32)))])) _
      refine own_go (fun t_ k_ => iremM X96 hx rfl (hb hby at_129) rfl (by decide) k_) ?_
      show own_Goes p e below (T96.setTop (mkF m 130 #[.val (.int x0), .val (.int x1), .val (.int x2), .val (.int x3), .val (.int x4), .val (.ref b1), .val (.ref b9), .val (.ref b17), .val (.int ((x1 &&& (2147483647 : Int32)) % (5 : Int32))), .val (.int ((x3 &&& (2147483647 : Int32)) % (5 : Int32))), .val (.int (1 : Int32)), .val (.int (0 : Int32)), .val (.ref b81), .val (.ref b90), .unset, .unset, .unset, .unset, .unset] [(.int ((x4 &&& (2147483647 : Int32)) % (3 : Int32)))])) _
      refine own_go (fun t_ k_ => XS.istore X96.here hx rfl (hb hby at_130) rfl (l' := #[.val (.int x0), .val (.int x1), .val (.int x2), .val (.int x3), .val (.int x4), .val (.ref b1), .val (.ref b9), .val (.ref b17), .val (.int ((x1 &&& (2147483647 : Int32)) % (5 : Int32))), .val (.int ((x3 &&& (2147483647 : Int32)) % (5 : Int32))), .val (.int (1 : Int32)), .val (.int (0 : Int32)), .val (.ref b81), .val (.ref b90), .val (.int ((x4 &&& (2147483647 : Int32)) % (3 : Int32))), .unset, .unset, .unset, .unset]) rfl k_) ?_
      show own_Goes p e below (T96.setTop (mkF m 132 #[.val (.int x0), .val (.int x1), .val (.int x2), .val (.int x3), .val (.int x4), .val (.ref b1), .val (.ref b9), .val (.ref b17), .val (.int ((x1 &&& (2147483647 : Int32)) % (5 : Int32))), .val (.int ((x3 &&& (2147483647 : Int32)) % (5 : Int32))), .val (.int (1 : Int32)), .val (.int (0 : Int32)), .val (.ref b81), .val (.ref b90), .val (.int ((x4 &&& (2147483647 : Int32)) % (3 : Int32))), .unset, .unset, .unset, .unset] [])) _
      refine own_go (fun t_ k_ => XS.iload X96.here hx rfl (hb hby at_132) rfl k_) ?_
      show own_Goes p e below (T96.setTop (mkF m 134 #[.val (.int x0), .val (.int x1), .val (.int x2), .val (.int x3), .val (.int x4), .val (.ref b1), .val (.ref b9), .val (.ref b17), .val (.int ((x1 &&& (2147483647 : Int32)) % (5 : Int32))), .val (.int ((x3 &&& (2147483647 : Int32)) % (5 : Int32))), .val (.int (1 : Int32)), .val (.int (0 : Int32)), .val (.ref b81), .val (.ref b90), .val (.int ((x4 &&& (2147483647 : Int32)) % (3 : Int32))), .unset, .unset, .unset, .unset] [(.int ((x4 &&& (2147483647 : Int32)) % (3 : Int32)))])) _
      by_cases hc99 : ((x4 &&& (2147483647 : Int32)) % (3 : Int32)) = (0 : Int32)
      · refine own_go (fun t_ k_ => XS.ifNo X96.here hx rfl (hb hby at_134) rfl ((if0 _ _).trans (teq hc99).2) k_) ?_
        show own_Goes p e below (T96.setTop (mkF m 137 #[.val (.int x0), .val (.int x1), .val (.int x2), .val (.int x3), .val (.int x4), .val (.ref b1), .val (.ref b9), .val (.ref b17), .val (.int ((x1 &&& (2147483647 : Int32)) % (5 : Int32))), .val (.int ((x3 &&& (2147483647 : Int32)) % (5 : Int32))), .val (.int (1 : Int32)), .val (.int (0 : Int32)), .val (.ref b81), .val (.ref b90), .val (.int ((x4 &&& (2147483647 : Int32)) % (3 : Int32))), .unset, .unset, .unset, .unset] [])) _
        refine own_go (fun t_ k_ => XS.aload X96.here hx rfl (hb hby at_137) rfl rfl k_) ?_
        show own_Goes p e below (T96.setTop (mkF m 139 #[.val (.int x0), .val (.int x1), .val (.int x2), .val (.int x3), .val (.int x4), .val (.ref b1), .val (.ref b9), .val (.ref b17), .val (.int ((x1 &&& (2147483647 : Int32)) % (5 : Int32))), .val (.int ((x3 &&& (2147483647 : Int32)) % (5 : Int32))), .val (.int (1 : Int32)), .val (.int (0 : Int32)), .val (.ref b81), .val (.ref b90), .val (.int ((x4 &&& (2147483647 : Int32)) % (3 : Int32))), .unset, .unset, .unset, .unset] [(.ref b90)])) _
        refine own_go (fun t_ k_ => XS.astore X96.here hx rfl (hb hby at_139) rfl rfl (l' := #[.val (.int x0), .val (.int x1), .val (.int x2), .val (.int x3), .val (.int x4), .val (.ref b1), .val (.ref b9), .val (.ref b17), .val (.int ((x1 &&& (2147483647 : Int32)) % (5 : Int32))), .val (.int ((x3 &&& (2147483647 : Int32)) % (5 : Int32))), .val (.int (1 : Int32)), .val (.int (0 : Int32)), .val (.ref b81), .val (.ref b90), .val (.int ((x4 &&& (2147483647 : Int32)) % (3 : Int32))), .val (.ref b90), .unset, .unset, .unset]) rfl k_) ?_
        show own_Goes p e below (T96.setTop (mkF m 141 #[.val (.int x0), .val (.int x1), .val (.int x2), .val (.int x3), .val (.int x4), .val (.ref b1), .val (.ref b9), .val (.ref b17), .val (.int ((x1 &&& (2147483647 : Int32)) % (5 : Int32))), .val (.int ((x3 &&& (2147483647 : Int32)) % (5 : Int32))), .val (.int (1 : Int32)), .val (.int (0 : Int32)), .val (.ref b81), .val (.ref b90), .val (.int ((x4 &&& (2147483647 : Int32)) % (3 : Int32))), .val (.ref b90), .unset, .unset, .unset] [])) _
        refine own_go (fun t_ k_ => XS.goto X96.here hx rfl (pc0 := 141) (pc' := 170) rfl (hb hby at_141) (by decide) (by decide) k_) ?_
        show own_Goes p e below (T96.setTop (mkF m 170 #[.val (.int x0), .val (.int x1), .val (.int x2), .val (.int x3), .val (.int x4), .val (.ref b1), .val (.ref b9), .val (.ref b17), .val (.int ((x1 &&& (2147483647 : Int32)) % (5 : Int32))), .val (.int ((x3 &&& (2147483647 : Int32)) % (5 : Int32))), .val (.int (1 : Int32)), .val (.int (0 : Int32)), .val (.ref b81), .val (.ref b90), .val (.int ((x4 &&& (2147483647 : Int32)) % (3 : Int32))), .val (.ref b90), .unset, .unset, .unset] [])) _
        refine own_go (fun t_ k_ => XS.iload X96.here hx rfl (hb hby at_170) rfl k_) ?_
        show own_Goes p e below (T96.setTop (mkF m 172 #[.val (.int x0), .val (.int x1), .val (.int x2), .val (.int x3), .val (.int x4), .val (.ref b1), .val (.ref b9), .val (.ref b17), .val (.int ((x1 &&& (2147483647 : Int32)) % (5 : Int32))), .val (.int ((x3 &&& (2147483647 : Int32)) % (5 : Int32))), .val (.int (1 : Int32)), .val (.int (0 : Int32)), .val (.ref b81), .val (.ref b90), .val (.int ((x4 &&& (2147483647 : Int32)) % (3 : Int32))), .val (.ref b90), .unset, .unset, .unset] [(.int ((x4 &&& (2147483647 : Int32)) % (3 : Int32)))])) _
        refine own_go (fun t_ k_ => XS.ifNo X96.here hx rfl (hb hby at_172) rfl ((if0 _ _).trans (teq hc99).2) k_) ?_
        show own_Goes p e below (T96.setTop (mkF m 175 #[.val (.int x0), .val (.int x1), .val (.int x2), .val (.int x3), .val (.int x4), .val (.ref b1), .val (.ref b9), .val (.ref b17), .val (.int ((x1 &&& (2147483647 : Int32)) % (5 : Int32))), .val (.int ((x3 &&& (2147483647 : Int32)) % (5 : Int32))), .val (.int (1 : Int32)), .val (.int (0 : Int32)), .val (.ref b81), .val (.ref b90), .val (.int ((x4 &&& (2147483647 : Int32)) % (3 : Int32))), .val (.ref b90), .unset, .unset, .unset] [])) _
        refine own_go (fun t_ k_ => XS.iload X96.here hx rfl (hb hby at_175) rfl k_) ?_
        show own_Goes p e below (T96.setTop (mkF m 177 #[.val (.int x0), .val (.int x1), .val (.int x2), .val (.int x3), .val (.int x4), .val (.ref b1), .val (.ref b9), .val (.ref b17), .val (.int ((x1 &&& (2147483647 : Int32)) % (5 : Int32))), .val (.int ((x3 &&& (2147483647 : Int32)) % (5 : Int32))), .val (.int (1 : Int32)), .val (.int (0 : Int32)), .val (.ref b81), .val (.ref b90), .val (.int ((x4 &&& (2147483647 : Int32)) % (3 : Int32))), .val (.ref b90), .unset, .unset, .unset] [(.int (1 : Int32))])) _
        refine own_go (fun t_ k_ => XS.iload X96.here hx rfl (hb hby at_177) rfl k_) ?_
        show own_Goes p e below (T96.setTop (mkF m 179 #[.val (.int x0), .val (.int x1), .val (.int x2), .val (.int x3), .val (.int x4), .val (.ref b1), .val (.ref b9), .val (.ref b17), .val (.int ((x1 &&& (2147483647 : Int32)) % (5 : Int32))), .val (.int ((x3 &&& (2147483647 : Int32)) % (5 : Int32))), .val (.int (1 : Int32)), .val (.int (0 : Int32)), .val (.ref b81), .val (.ref b90), .val (.int ((x4 &&& (2147483647 : Int32)) % (3 : Int32))), .val (.ref b90), .unset, .unset, .unset] [(.int (0 : Int32)), (.int (1 : Int32))])) _
        refine own_go (fun t_ k_ => XS.icmpYes X96.here hx rfl (pc0 := 179) (pc' := 193) rfl (hb hby at_179) rfl (feq (show ¬ ((1 : Int32) = (0 : Int32)) from by decide)).2 (by decide) (by decide) k_) ?_
        show own_Goes p e below (T96.setTop (mkF m 193 #[.val (.int x0), .val (.int x1), .val (.int x2), .val (.int x3), .val (.int x4), .val (.ref b1), .val (.ref b9), .val (.ref b17), .val (.int ((x1 &&& (2147483647 : Int32)) % (5 : Int32))), .val (.int ((x3 &&& (2147483647 : Int32)) % (5 : Int32))), .val (.int (1 : Int32)), .val (.int (0 : Int32)), .val (.ref b81), .val (.ref b90), .val (.int ((x4 &&& (2147483647 : Int32)) % (3 : Int32))), .val (.ref b90), .unset, .unset, .unset] [])) _
        refine own_go (fun t_ k_ => XS.iconst X96.here hx rfl (hb hby at_193) k_) ?_
        show own_Goes p e below (T96.setTop (mkF m 194 #[.val (.int x0), .val (.int x1), .val (.int x2), .val (.int x3), .val (.int x4), .val (.ref b1), .val (.ref b9), .val (.ref b17), .val (.int ((x1 &&& (2147483647 : Int32)) % (5 : Int32))), .val (.int ((x3 &&& (2147483647 : Int32)) % (5 : Int32))), .val (.int (1 : Int32)), .val (.int (0 : Int32)), .val (.ref b81), .val (.ref b90), .val (.int ((x4 &&& (2147483647 : Int32)) % (3 : Int32))), .val (.ref b90), .unset, .unset, .unset] [(.int (0 : Int32))])) _
        refine own_go (fun t_ k_ => XS.istore X96.here hx rfl (hb hby at_194) rfl (l' := #[.val (.int x0), .val (.int x1), .val (.int x2), .val (.int x3), .val (.int x4), .val (.ref b1), .val (.ref b9), .val (.ref b17), .val (.int ((x1 &&& (2147483647 : Int32)) % (5 : Int32))), .val (.int ((x3 &&& (2147483647 : Int32)) % (5 : Int32))), .val (.int (1 : Int32)), .val (.int (0 : Int32)), .val (.ref b81), .val (.ref b90), .val (.int ((x4 &&& (2147483647 : Int32)) % (3 : Int32))), .val (.ref b90), .val (.int (0 : Int32)), .unset, .unset]) rfl k_) ?_
        show own_Goes p e below (T96.setTop (mkF m 196 #[.val (.int x0), .val (.int x1), .val (.int x2), .val (.int x3), .val (.int x4), .val (.ref b1), .val (.ref b9), .val (.ref b17), .val (.int ((x1 &&& (2147483647 : Int32)) % (5 : Int32))), .val (.int ((x3 &&& (2147483647 : Int32)) % (5 : Int32))), .val (.int (1 : Int32)), .val (.int (0 : Int32)), .val (.ref b81), .val (.ref b90), .val (.int ((x4 &&& (2147483647 : Int32)) % (3 : Int32))), .val (.ref b90), .val (.int (0 : Int32)), .unset, .unset] [])) _
        refine own_go (fun t_ k_ => XS.aload X96.here hx rfl (hb hby at_196) rfl rfl k_) ?_
        show own_Goes p e below (T96.setTop (mkF m 198 #[.val (.int x0), .val (.int x1), .val (.int x2), .val (.int x3), .val (.int x4), .val (.ref b1), .val (.ref b9), .val (.ref b17), .val (.int ((x1 &&& (2147483647 : Int32)) % (5 : Int32))), .val (.int ((x3 &&& (2147483647 : Int32)) % (5 : Int32))), .val (.int (1 : Int32)), .val (.int (0 : Int32)), .val (.ref b81), .val (.ref b90), .val (.int ((x4 &&& (2147483647 : Int32)) % (3 : Int32))), .val (.ref b90), .val (.int (0 : Int32)), .unset, .unset] [(.ref b81)])) _
        refine own_go (fun t_ k_ => XS.aload X96.here hx rfl (hb hby at_198) rfl rfl k_) ?_
        show own_Goes p e below (T96.setTop (mkF m 200 #[.val (.int x0), .val (.int x1), .val (.int x2), .val (.int x3), .val (.int x4), .val (.ref b1), .val (.ref b9), .val (.ref b17), .val (.int ((x1 &&& (2147483647 : Int32)) % (5 : Int32))), .val (.int ((x3 &&& (2147483647 : Int32)) % (5 : Int32))), .val (.int (1 : Int32)), .val (.int (0 : Int32)), .val (.ref b81), .val (.ref b90), .val (.int ((x4 &&& (2147483647 : Int32)) % (3 : Int32))), .val (.ref b90), .val (.int (0 : Int32)), .unset, .unset] [(.ref b90), (.ref b81)])) _
        have f100 := (A90.keep Kc96)
        have f101 := ((c87_0.ext E90).keep Kc96 (ninS (own_ne (a := b81) (b := b90) (by omega)) nin0))
        have f102 := ((c87_1.ext E90).keep Kc96 (ninS (own_ne (a := b81) (b := b90) (by omega)) nin0))
        have f103 := (((A81.keep Kc87).ext E90).keep Kc96)
        obtain ⟨cqiv104, kqiv104, qiv104a, qiv104b, qiv104c⟩ := isOf hZ96 e96 f103
        obtain ⟨_, _, ⟨T105, L105, k105, n105⟩, -, X105, ⟨Lc105, hQ105, l105, y105, z105⟩, st105⟩ := X96.virtualBack hx (y := own_m14) (z := own_m14) hown96 (mvT hZ96 (hw _ (List.mem_of_getElem? (i := 72) rfl))) (mvT hZ96 (hw _ (List.mem_of_getElem? (i := 73) rfl))) (notFace_of_selects (args := #[]) (mvT hZ96 (hw _ (List.mem_of_getElem? (i := 75) rfl)))) (mvT hZ96 (hw _ (List.mem_of_getElem? (i := 75) rfl))) (mvT hZ96 (hw _ (List.mem_of_getElem? (i := 74) rfl))) (by decide) (backOf (W := 0) (own_eqF l Z a0 hw [] b81 b90 b9 b17 r_85 r_94 h96 n0 O97 f100 f101 c96_0 f102 c96_1 (show ¬ (b9 = b17 ∧ r_85 = r_94) from (fun q => absurd q.1 (by omega)))) hZ96 (hw _ (List.mem_of_getElem? (i := 76) rfl)) (hw _ (List.mem_of_getElem? (i := 48) rfl)) (by decide) (by decide)) qiv104a qiv104c (g := (mkF m 200 #[.val (.int x0), .val (.int x1), .val (.int x2), .val (.int x3), .val (.int x4), .val (.ref b1), .val (.ref b9), .val (.ref b17), .val (.int ((x1 &&& (2147483647 : Int32)) % (5 : Int32))), .val (.int ((x3 &&& (2147483647 : Int32)) % (5 : Int32))), .val (.int (1 : Int32)), .val (.int (0 : Int32)), .val (.ref b81), .val (.ref b90), .val (.int ((x4 &&& (2147483647 : Int32)) % (3 : Int32))), .val (.ref b90), .val (.int (0 : Int32)), .unset, .unset] [(.ref b90), (.ref b81)])) rfl (by rw [hml]; rfl) (Steps.refl _) (argsL := [(.ref b90)]) (rest := []) (lenOf own_pd_13 rfl) rfl (by show 2 * 0 + _ ≤ _; exact Nat.le_of_eq rfl) (hb hby at_200) (fun _ _ => ⟨rfl, e96, (by decide : 17 + 0 ≤ _), (by decide : 200 + 0 ≤ _)⟩)
        dsimp only [Pt.U, Pt.locs, Pt.cells, Pt.slots] at X105 l105 y105 z105 st105 hQ105
        subst l105 y105 z105
        obtain ⟨Nc105, e105, rfl⟩ := hQ105
        have N105 := Fr.app N96 Nc105
        refine own_goS st105 ?_
        show own_Goes p e below (T105.setTop (mkF m 203 #[.val (.int x0), .val (.int x1), .val (.int x2), .val (.int x3), .val (.int x4), .val (.ref b1), .val (.ref b9), .val (.ref b17), .val (.int ((x1 &&& (2147483647 : Int32)) % (5 : Int32))), .val (.int ((x3 &&& (2147483647 : Int32)) % (5 : Int32))), .val (.int (1 : Int32)), .val (.int (0 : Int32)), .val (.ref b81), .val (.ref b90), .val (.int ((x4 &&& (2147483647 : Int32)) % (3 : Int32))), .val (.ref b90), .val (.int (0 : Int32)), .unset, .unset] [(.int (0 : Int32))])) _
        refine own_go (fun t_ k_ => XS.istore X105.here hx rfl (hb hby at_203) rfl (l' := #[.val (.int x0), .val (.int x1), .val (.int x2), .val (.int x3), .val (.int x4), .val (.ref b1), .val (.ref b9), .val (.ref b17), .val (.int ((x1 &&& (2147483647 : Int32)) % (5 : Int32))), .val (.int ((x3 &&& (2147483647 : Int32)) % (5 : Int32))), .val (.int (1 : Int32)), .val (.int (0 : Int32)), .val (.ref b81), .val (.ref b90), .val (.int ((x4 &&& (2147483647 : Int32)) % (3 : Int32))), .val (.ref b90), .val (.int (0 : Int32)), .val (.int (0 : Int32)), .unset]) rfl k_) ?_
        show own_Goes p e below (T105.setTop (mkF m 205 #[.val (.int x0), .val (.int x1), .val (.int x2), .val (.int x3), .val (.int x4), .val (.ref b1), .val (.ref b9), .val (.ref b17), .val (.int ((x1 &&& (2147483647 : Int32)) % (5 : Int32))), .val (.int ((x3 &&& (2147483647 : Int32)) % (5 : Int32))), .val (.int (1 : Int32)), .val (.int (0 : Int32)), .val (.ref b81), .val (.ref b90), .val (.int ((x4 &&& (2147483647 : Int32)) % (3 : Int32))), .val (.ref b90), .val (.int (0 : Int32)), .val (.int (0 : Int32)), .unset] [])) _
        refine own_go (fun t_ k_ => XS.aload X105.here hx rfl (hb hby at_205) rfl rfl k_) ?_
        show own_Goes p e below (T105.setTop (mkF m 207 #[.val (.int x0), .val (.int x1), .val (.int x2), .val (.int x3), .val (.int x4), .val (.ref b1), .val (.ref b9), .val (.ref b17), .val (.int ((x1 &&& (2147483647 : Int32)) % (5 : Int32))), .val (.int ((x3 &&& (2147483647 : Int32)) % (5 : Int32))), .val (.int (1 : Int32)), .val (.int (0 : Int32)), .val (.ref b81), .val (.ref b90), .val (.int ((x4 &&& (2147483647 : Int32)) % (3 : Int32))), .val (.ref b90), .val (.int (0 : Int32)), .val (.int (0 : Int32)), .unset] [(.ref b81)])) _
        refine own_go (fun t_ k_ => XS.aload X105.here hx rfl (hb hby at_207) rfl rfl k_) ?_
        show own_Goes p e below (T105.setTop (mkF m 209 #[.val (.int x0), .val (.int x1), .val (.int x2), .val (.int x3), .val (.int x4), .val (.ref b1), .val (.ref b9), .val (.ref b17), .val (.int ((x1 &&& (2147483647 : Int32)) % (5 : Int32))), .val (.int ((x3 &&& (2147483647 : Int32)) % (5 : Int32))), .val (.int (1 : Int32)), .val (.int (0 : Int32)), .val (.ref b81), .val (.ref b90), .val (.int ((x4 &&& (2147483647 : Int32)) % (3 : Int32))), .val (.ref b90), .val (.int (0 : Int32)), .val (.int (0 : Int32)), .unset] [(.ref b81), (.ref b81)])) _
        obtain ⟨cqiv106, kqiv106, qiv106a, qiv106b, qiv106c⟩ := isOf hZ96 e105 f103
        obtain ⟨_, _, ⟨T107, L107, k107, n107⟩, -, X107, ⟨Lc107, hQ107, l107, y107, z107⟩, st107⟩ := X105.virtualBack hx (y := own_m14) (z := own_m14) hown96 (mvT hZ96 (hw _ (List.mem_of_getElem? (i := 72) rfl))) (mvT hZ96 (hw _ (List.mem_of_getElem? (i := 73) rfl))) (notFace_of_selects (args := #[]) (mvT hZ96 (hw _ (List.mem_of_getElem? (i := 75) rfl)))) (mvT hZ96 (hw _ (List.mem_of_getElem? (i := 75) rfl))) (mvT hZ96 (hw _ (List.mem_of_getElem? (i := 74) rfl))) (by decide) (backOf (W := 0) (own_eqT l Z a0 hw [] b81 b81 b9 b9 r_85 r_85 h96 n0 O97 f103 f101 f101 f102 f102 (show b9 = b9 from rfl) (show r_85 = r_85 from rfl)) hZ96 (hw _ (List.mem_of_getElem? (i := 76) rfl)) (hw _ (List.mem_of_getElem? (i := 48) rfl)) (by decide) (by decide)) qiv106a qiv106c (g := (mkF m 209 #[.val (.int x0), .val (.int x1), .val (.int x2), .val (.int x3), .val (.int x4), .val (.ref b1), .val (.ref b9), .val (.ref b17), .val (.int ((x1 &&& (2147483647 : Int32)) % (5 : Int32))), .val (.int ((x3 &&& (2147483647 : Int32)) % (5 : Int32))), .val (.int (1 : Int32)), .val (.int (0 : Int32)), .val (.ref b81), .val (.ref b90), .val (.int ((x4 &&& (2147483647 : Int32)) % (3 : Int32))), .val (.ref b90), .val (.int (0 : Int32)), .val (.int (0 : Int32)), .unset] [(.ref b81), (.ref b81)])) rfl (by rw [hml]; rfl) (Steps.refl _) (argsL := [(.ref b81)]) (rest := []) (lenOf own_pd_13 rfl) rfl (by show 2 * 0 + _ ≤ _; exact Nat.le_of_eq rfl) (hb hby at_209) (fun _ _ => ⟨rfl, e105, (by decide : 17 + 0 ≤ _), (by decide : 200 + 0 ≤ _)⟩)
        dsimp only [Pt.U, Pt.locs, Pt.cells, Pt.slots] at X107 l107 y107 z107 st107 hQ107
        subst l107 y107 z107
        obtain ⟨Nc107, e107, rfl⟩ := hQ107
        have N107 := Fr.app N105 Nc107
        refine own_goS st107 ?_
        show own_Goes p e below (T107.setTop (mkF m 212 #[.val (.int x0), .val (.int x1), .val (.int x2), .val (.int x3), .val (.int x4), .val (.ref b1), .val (.ref b9), .val (.ref b17), .val (.int ((x1 &&& (2147483647 : Int32)) % (5 : Int32))), .val (.int ((x3 &&& (2147483647 : Int32)) % (5 : Int32))), .val (.int (1 : Int32)), .val (.int (0 : Int32)), .val (.ref b81), .val (.ref b90), .val (.int ((x4 &&& (2147483647 : Int32)) % (3 : Int32))), .val (.ref b90), .val (.int (0 : Int32)), .val (.int (0 : Int32)), .unset] [(.int (1 : Int32))])) _
        refine own_go (fun t_ k_ => XS.istore X107.here hx rfl (hb hby at_212) rfl (l' := #[.val (.int x0), .val (.int x1), .val (.int x2), .val (.int x3), .val (.int x4), .val (.ref b1), .val (.ref b9), .val (.ref b17), .val (.int ((x1 &&& (2147483647 : Int32)) % (5 : Int32))), .val (.int ((x3 &&& (2147483647 : Int32)) % (5 : Int32))), .val (.int (1 : Int32)), .val (.int (0 : Int32)), .val (.ref b81), .val (.ref b90), .val (.int ((x4 &&& (2147483647 : Int32)) % (3 : Int32))), .val (.ref b90), .val (.int (0 : Int32)), .val (.int (0 : Int32)), .val (.int (1 : Int32))]) rfl k_) ?_
        show own_Goes p e below (T107.setTop (mkF m 214 #[.val (.int x0), .val (.int x1), .val (.int x2), .val (.int x3), .val (.int x4), .val (.ref b1), .val (.ref b9), .val (.ref b17), .val (.int ((x1 &&& (2147483647 : Int32)) % (5 : Int32))), .val (.int ((x3 &&& (2147483647 : Int32)) % (5 : Int32))), .val (.int (1 : Int32)), .val (.int (0 : Int32)), .val (.ref b81), .val (.ref b90), .val (.int ((x4 &&& (2147483647 : Int32)) % (3 : Int32))), .val (.ref b90), .val (.int (0 : Int32)), .val (.int (0 : Int32)), .val (.int (1 : Int32))] [])) _
        refine own_go (fun t_ k_ => XS.iload X107.here hx rfl (hb hby at_214) rfl k_) ?_
        show own_Goes p e below (T107.setTop (mkF m 216 #[.val (.int x0), .val (.int x1), .val (.int x2), .val (.int x3), .val (.int x4), .val (.ref b1), .val (.ref b9), .val (.ref b17), .val (.int ((x1 &&& (2147483647 : Int32)) % (5 : Int32))), .val (.int ((x3 &&& (2147483647 : Int32)) % (5 : Int32))), .val (.int (1 : Int32)), .val (.int (0 : Int32)), .val (.ref b81), .val (.ref b90), .val (.int ((x4 &&& (2147483647 : Int32)) % (3 : Int32))), .val (.ref b90), .val (.int (0 : Int32)), .val (.int (0 : Int32)), .val (.int (1 : Int32))] [(.int (0 : Int32))])) _
        refine own_go (fun t_ k_ => XS.iload X107.here hx rfl (hb hby at_216) rfl k_) ?_
        show own_Goes p e below (T107.setTop (mkF m 218 #[.val (.int x0), .val (.int x1), .val (.int x2), .val (.int x3), .val (.int x4), .val (.ref b1), .val (.ref b9), .val (.ref b17), .val (.int ((x1 &&& (2147483647 : Int32)) % (5 : Int32))), .val (.int ((x3 &&& (2147483647 : Int32)) % (5 : Int32))), .val (.int (1 : Int32)), .val (.int (0 : Int32)), .val (.ref b81), .val (.ref b90), .val (.int ((x4 &&& (2147483647 : Int32)) % (3 : Int32))), .val (.ref b90), .val (.int (0 : Int32)), .val (.int (0 : Int32)), .val (.int (1 : Int32))] [(.int (0 : Int32)), (.int (0 : Int32))])) _
        refine own_go (fun t_ k_ => XS.icmpNo X107.here hx rfl (hb hby at_218) rfl (teq (show ((0 : Int32) = (0 : Int32)) from by decide)).2 k_) ?_
        show own_Goes p e below (T107.setTop (mkF m 221 #[.val (.int x0), .val (.int x1), .val (.int x2), .val (.int x3), .val (.int x4), .val (.ref b1), .val (.ref b9), .val (.ref b17), .val (.int ((x1 &&& (2147483647 : Int32)) % (5 : Int32))), .val (.int ((x3 &&& (2147483647 : Int32)) % (5 : Int32))), .val (.int (1 : Int32)), .val (.int (0 : Int32)), .val (.ref b81), .val (.ref b90), .val (.int ((x4 &&& (2147483647 : Int32)) % (3 : Int32))), .val (.ref b90), .val (.int (0 : Int32)), .val (.int (0 : Int32)), .val (.int (1 : Int32))] [])) _
        refine own_go (fun t_ k_ => XS.iload X107.here hx rfl (hb hby at_221) rfl k_) ?_
        show own_Goes p e below (T107.setTop (mkF m 223 #[.val (.int x0), .val (.int x1), .val (.int x2), .val (.int x3), .val (.int x4), .val (.ref b1), .val (.ref b9), .val (.ref b17), .val (.int ((x1 &&& (2147483647 : Int32)) % (5 : Int32))), .val (.int ((x3 &&& (2147483647 : Int32)) % (5 : Int32))), .val (.int (1 : Int32)), .val (.int (0 : Int32)), .val (.ref b81), .val (.ref b90), .val (.int ((x4 &&& (2147483647 : Int32)) % (3 : Int32))), .val (.ref b90), .val (.int (0 : Int32)), .val (.int (0 : Int32)), .val (.int (1 : Int32))] [(.int (1 : Int32))])) _
        refine own_go (fun t_ k_ => XS.ifNo X107.here hx rfl (hb hby at_223) rfl ((if0 _ _).trans (feq (show ¬ ((1 : Int32) = (0 : Int32)) from by decide)).1) k_) ?_
        show own_Goes p e below (T107.setTop (mkF m 226 #[.val (.int x0), .val (.int x1), .val (.int x2), .val (.int x3), .val (.int x4), .val (.ref b1), .val (.ref b9), .val (.ref b17), .val (.int ((x1 &&& (2147483647 : Int32)) % (5 : Int32))), .val (.int ((x3 &&& (2147483647 : Int32)) % (5 : Int32))), .val (.int (1 : Int32)), .val (.int (0 : Int32)), .val (.ref b81), .val (.ref b90), .val (.int ((x4 &&& (2147483647 : Int32)) % (3 : Int32))), .val (.ref b90), .val (.int (0 : Int32)), .val (.int (0 : Int32)), .val (.int (1 : Int32))] [])) _
        refine own_go (fun t_ k_ => XS.iconst X107.here hx rfl (hb hby at_226) k_) ?_
        show own_Goes p e below (T107.setTop (mkF m 227 #[.val (.int x0), .val (.int x1), .val (.int x2), .val (.int x3), .val (.int x4), .val (.ref b1), .val (.ref b9), .val (.ref b17), .val (.int ((x1 &&& (2147483647 : Int32)) % (5 : Int32))), .val (.int ((x3 &&& (2147483647 : Int32)) % (5 : Int32))), .val (.int (1 : Int32)), .val (.int (0 : Int32)), .val (.ref b81), .val (.ref b90), .val (.int ((x4 &&& (2147483647 : Int32)) % (3 : Int32))), .val (.ref b90), .val (.int (0 : Int32)), .val (.int (0 : Int32)), .val (.int (1 : Int32))] [(.int (1 : Int32))])) _
        refine own_go (fun t_ k_ => XS.goto X107.here hx rfl (pc0 := 227) (pc' := 231) rfl (hb hby at_227) (by decide) (by decide) k_) ?_
        show own_Goes p e below (T107.setTop (mkF m 231 #[.val (.int x0), .val (.int x1), .val (.int x2), .val (.int x3), .val (.int x4), .val (.ref b1), .val (.ref b9), .val (.ref b17), .val (.int ((x1 &&& (2147483647 : Int32)) % (5 : Int32))), .val (.int ((x3 &&& (2147483647 : Int32)) % (5 : Int32))), .val (.int (1 : Int32)), .val (.int (0 : Int32)), .val (.ref b81), .val (.ref b90), .val (.int ((x4 &&& (2147483647 : Int32)) % (3 : Int32))), .val (.ref b90), .val (.int (0 : Int32)), .val (.int (0 : Int32)), .val (.int (1 : Int32))] [(.int (1 : Int32))])) _
        refine own_endW X107 hS96 (show _ ≤ T107.heap.size by rw [e107]; exact hk96) (v := (some (.int (1 : Int32)))) (fun h => by rw [hret] at h; cases h) hlk (by decide) (by decide) ?_ (fun fs hr => retOut X107 hx hret rfl (Or.inl ⟨rfl, Or.inr (Or.inl rfl), _, rfl⟩) (hb hby at_231) hr)
        show Q_rm0 Z x0 x1 x2 x3 x4 gw0 gw1 gw2 gw3 gw4 h0 n0 _ T107.heap _
        rw [e107]
        exact ⟨N107, trivial, rfl⟩
      · refine own_go (fun t_ k_ => XS.ifYes X96.here hx rfl (pc0 := 134) (pc' := 144) rfl (hb hby at_134) rfl ((if0 _ _).trans (feq hc99).2) (by decide) (by decide) k_) ?_
        show own_Goes p e below (T96.setTop (mkF m 144 #[.val (.int x0), .val (.int x1), .val (.int x2), .val (.int x3), .val (.int x4), .val (.ref b1), .val (.ref b9), .val (.ref b17), .val (.int ((x1 &&& (2147483647 : Int32)) % (5 : Int32))), .val (.int ((x3 &&& (2147483647 : Int32)) % (5 : Int32))), .val (.int (1 : Int32)), .val (.int (0 : Int32)), .val (.ref b81), .val (.ref b90), .val (.int ((x4 &&& (2147483647 : Int32)) % (3 : Int32))), .unset, .unset, .unset, .unset] [])) _
        refine own_go (fun t_ k_ => XS.iload X96.here hx rfl (hb hby at_144) rfl k_) ?_
        show own_Goes p e below (T96.setTop (mkF m 146 #[.val (.int x0), .val (.int x1), .val (.int x2), .val (.int x3), .val (.int x4), .val (.ref b1), .val (.ref b9), .val (.ref b17), .val (.int ((x1 &&& (2147483647 : Int32)) % (5 : Int32))), .val (.int ((x3 &&& (2147483647 : Int32)) % (5 : Int32))), .val (.int (1 : Int32)), .val (.int (0 : Int32)), .val (.ref b81), .val (.ref b90), .val (.int ((x4 &&& (2147483647 : Int32)) % (3 : Int32))), .unset, .unset, .unset, .unset] [(.int ((x4 &&& (2147483647 : Int32)) % (3 : Int32)))])) _
        refine own_go (fun t_ k_ => XS.iconst X96.here hx rfl (hb hby at_146) k_) ?_
        show own_Goes p e below (T96.setTop (mkF m 147 #[.val (.int x0), .val (.int x1), .val (.int x2), .val (.int x3), .val (.int x4), .val (.ref b1), .val (.ref b9), .val (.ref b17), .val (.int ((x1 &&& (2147483647 : Int32)) % (5 : Int32))), .val (.int ((x3 &&& (2147483647 : Int32)) % (5 : Int32))), .val (.int (1 : Int32)), .val (.int (0 : Int32)), .val (.ref b81), .val (.ref b90), .val (.int ((x4 &&& (2147483647 : Int32)) % (3 : Int32))), .unset, .unset, .unset, .unset] [(.int (1 : Int32)), (.int ((x4 &&& (2147483647 : Int32)) % (3 : Int32)))])) _
        by_cases hc108 : ((x4 &&& (2147483647 : Int32)) % (3 : Int32)) = (1 : Int32)
        · refine own_go (fun t_ k_ => XS.icmpNo X96.here hx rfl (hb hby at_147) rfl (teq hc108).2 k_) ?_
          show own_Goes p e below (T96.setTop (mkF m 150 #[.val (.int x0), .val (.int x1), .val (.int x2), .val (.int x3), .val (.int x4), .val (.ref b1), .val (.ref b9), .val (.ref b17), .val (.int ((x1 &&& (2147483647 : Int32)) % (5 : Int32))), .val (.int ((x3 &&& (2147483647 : Int32)) % (5 : Int32))), .val (.int (1 : Int32)), .val (.int (0 : Int32)), .val (.ref b81), .val (.ref b90), .val (.int ((x4 &&& (2147483647 : Int32)) % (3 : Int32))), .unset, .unset, .unset, .unset] [])) _
          refine own_go (fun t_ k_ => XS.aconstNull X96.here hx rfl (hb hby at_150) k_) ?_
          show own_Goes p e below (T96.setTop (mkF m 151 #[.val (.int x0), .val (.int x1), .val (.int x2), .val (.int x3), .val (.int x4), .val (.ref b1), .val (.ref b9), .val (.ref b17), .val (.int ((x1 &&& (2147483647 : Int32)) % (5 : Int32))), .val (.int ((x3 &&& (2147483647 : Int32)) % (5 : Int32))), .val (.int (1 : Int32)), .val (.int (0 : Int32)), .val (.ref b81), .val (.ref b90), .val (.int ((x4 &&& (2147483647 : Int32)) % (3 : Int32))), .unset, .unset, .unset, .unset] [.null])) _
          refine own_go (fun t_ k_ => XS.astore X96.here hx rfl (hb hby at_151) rfl rfl (l' := #[.val (.int x0), .val (.int x1), .val (.int x2), .val (.int x3), .val (.int x4), .val (.ref b1), .val (.ref b9), .val (.ref b17), .val (.int ((x1 &&& (2147483647 : Int32)) % (5 : Int32))), .val (.int ((x3 &&& (2147483647 : Int32)) % (5 : Int32))), .val (.int (1 : Int32)), .val (.int (0 : Int32)), .val (.ref b81), .val (.ref b90), .val (.int ((x4 &&& (2147483647 : Int32)) % (3 : Int32))), .val .null, .unset, .unset, .unset]) rfl k_) ?_
          show own_Goes p e below (T96.setTop (mkF m 153 #[.val (.int x0), .val (.int x1), .val (.int x2), .val (.int x3), .val (.int x4), .val (.ref b1), .val (.ref b9), .val (.ref b17), .val (.int ((x1 &&& (2147483647 : Int32)) % (5 : Int32))), .val (.int ((x3 &&& (2147483647 : Int32)) % (5 : Int32))), .val (.int (1 : Int32)), .val (.int (0 : Int32)), .val (.ref b81), .val (.ref b90), .val (.int ((x4 &&& (2147483647 : Int32)) % (3 : Int32))), .val .null, .unset, .unset, .unset] [])) _
          refine own_go (fun t_ k_ => XS.goto X96.here hx rfl (pc0 := 153) (pc' := 170) rfl (hb hby at_153) (by decide) (by decide) k_) ?_
          show own_Goes p e below (T96.setTop (mkF m 170 #[.val (.int x0), .val (.int x1), .val (.int x2), .val (.int x3), .val (.int x4), .val (.ref b1), .val (.ref b9), .val (.ref b17), .val (.int ((x1 &&& (2147483647 : Int32)) % (5 : Int32))), .val (.int ((x3 &&& (2147483647 : Int32)) % (5 : Int32))), .val (.int (1 : Int32)), .val (.int (0 : Int32)), .val (.ref b81), .val (.ref b90), .val (.int ((x4 &&& (2147483647 : Int32)) % (3 : Int32))), .val .null, .unset, .unset, .unset] [])) _
          refine own_go (fun t_ k_ => XS.iload X96.here hx rfl (hb hby at_170) rfl k_) ?_
          show own_Goes p e below (T96.setTop (mkF m 172 #[.val (.int x0), .val (.int x1), .val (.int x2), .val (.int x3), .val (.int x4), .val (.ref b1), .val (.ref b9), .val (.ref b17), .val (.int ((x1 &&& (2147483647 : Int32)) % (5 : Int32))), .val (.int ((x3 &&& (2147483647 : Int32)) % (5 : Int32))), .val (.int (1 : Int32)), .val (.int (0 : Int32)), .val (.ref b81), .val (.ref b90), .val (.int ((x4 &&& (2147483647 : Int32)) % (3 : Int32))), .val .null, .unset, .unset, .unset] [(.int ((x4 &&& (2147483647 : Int32)) % (3 : Int32)))])) _
          refine own_go (fun t_ k_ => XS.ifYes X96.here hx rfl (pc0 := 172) (pc' := 193) rfl (hb hby at_172) rfl ((if0 _ _).trans (feq hc99).2) (by decide) (by decide) k_) ?_
          show own_Goes p e below (T96.setTop (mkF m 193 #[.val (.int x0), .val (.int x1), .val (.int x2), .val (.int x3), .val (.int x4), .val (.ref b1), .val (.ref b9), .val (.ref b17), .val (.int ((x1 &&& (2147483647 : Int32)) % (5 : Int32))), .val (.int ((x3 &&& (2147483647 : Int32)) % (5 : Int32))), .val (.int (1 : Int32)), .val (.int (0 : Int32)), .val (.ref b81), .val (.ref b90), .val (.int ((x4 &&& (2147483647 : Int32)) % (3 : Int32))), .val .null, .unset, .unset, .unset] [])) _
          refine own_go (fun t_ k_ => XS.iconst X96.here hx rfl (hb hby at_193) k_) ?_
          show own_Goes p e below (T96.setTop (mkF m 194 #[.val (.int x0), .val (.int x1), .val (.int x2), .val (.int x3), .val (.int x4), .val (.ref b1), .val (.ref b9), .val (.ref b17), .val (.int ((x1 &&& (2147483647 : Int32)) % (5 : Int32))), .val (.int ((x3 &&& (2147483647 : Int32)) % (5 : Int32))), .val (.int (1 : Int32)), .val (.int (0 : Int32)), .val (.ref b81), .val (.ref b90), .val (.int ((x4 &&& (2147483647 : Int32)) % (3 : Int32))), .val .null, .unset, .unset, .unset] [(.int (0 : Int32))])) _
          refine own_go (fun t_ k_ => XS.istore X96.here hx rfl (hb hby at_194) rfl (l' := #[.val (.int x0), .val (.int x1), .val (.int x2), .val (.int x3), .val (.int x4), .val (.ref b1), .val (.ref b9), .val (.ref b17), .val (.int ((x1 &&& (2147483647 : Int32)) % (5 : Int32))), .val (.int ((x3 &&& (2147483647 : Int32)) % (5 : Int32))), .val (.int (1 : Int32)), .val (.int (0 : Int32)), .val (.ref b81), .val (.ref b90), .val (.int ((x4 &&& (2147483647 : Int32)) % (3 : Int32))), .val .null, .val (.int (0 : Int32)), .unset, .unset]) rfl k_) ?_
          show own_Goes p e below (T96.setTop (mkF m 196 #[.val (.int x0), .val (.int x1), .val (.int x2), .val (.int x3), .val (.int x4), .val (.ref b1), .val (.ref b9), .val (.ref b17), .val (.int ((x1 &&& (2147483647 : Int32)) % (5 : Int32))), .val (.int ((x3 &&& (2147483647 : Int32)) % (5 : Int32))), .val (.int (1 : Int32)), .val (.int (0 : Int32)), .val (.ref b81), .val (.ref b90), .val (.int ((x4 &&& (2147483647 : Int32)) % (3 : Int32))), .val .null, .val (.int (0 : Int32)), .unset, .unset] [])) _
          refine own_go (fun t_ k_ => XS.aload X96.here hx rfl (hb hby at_196) rfl rfl k_) ?_
          show own_Goes p e below (T96.setTop (mkF m 198 #[.val (.int x0), .val (.int x1), .val (.int x2), .val (.int x3), .val (.int x4), .val (.ref b1), .val (.ref b9), .val (.ref b17), .val (.int ((x1 &&& (2147483647 : Int32)) % (5 : Int32))), .val (.int ((x3 &&& (2147483647 : Int32)) % (5 : Int32))), .val (.int (1 : Int32)), .val (.int (0 : Int32)), .val (.ref b81), .val (.ref b90), .val (.int ((x4 &&& (2147483647 : Int32)) % (3 : Int32))), .val .null, .val (.int (0 : Int32)), .unset, .unset] [(.ref b81)])) _
          refine own_go (fun t_ k_ => XS.aload X96.here hx rfl (hb hby at_198) rfl rfl k_) ?_
          show own_Goes p e below (T96.setTop (mkF m 200 #[.val (.int x0), .val (.int x1), .val (.int x2), .val (.int x3), .val (.int x4), .val (.ref b1), .val (.ref b9), .val (.ref b17), .val (.int ((x1 &&& (2147483647 : Int32)) % (5 : Int32))), .val (.int ((x3 &&& (2147483647 : Int32)) % (5 : Int32))), .val (.int (1 : Int32)), .val (.int (0 : Int32)), .val (.ref b81), .val (.ref b90), .val (.int ((x4 &&& (2147483647 : Int32)) % (3 : Int32))), .val .null, .val (.int (0 : Int32)), .unset, .unset] [.null, (.ref b81)])) _
          have f109 := (((A81.keep Kc87).ext E90).keep Kc96)
          obtain ⟨cqiv110, kqiv110, qiv110a, qiv110b, qiv110c⟩ := isOf hZ96 e96 f109
          obtain ⟨_, _, ⟨T111, L111, k111, n111⟩, -, X111, ⟨Lc111, hQ111, l111, y111, z111⟩, st111⟩ := X96.virtualBack hx (y := own_m14) (z := own_m14) hown96 (mvT hZ96 (hw _ (List.mem_of_getElem? (i := 72) rfl))) (mvT hZ96 (hw _ (List.mem_of_getElem? (i := 73) rfl))) (notFace_of_selects (args := #[]) (mvT hZ96 (hw _ (List.mem_of_getElem? (i := 75) rfl)))) (mvT hZ96 (hw _ (List.mem_of_getElem? (i := 75) rfl))) (mvT hZ96 (hw _ (List.mem_of_getElem? (i := 74) rfl))) (by decide) (backOf (W := 0) (own_eqN l Z a0 hw [] b81 h96 n0 O97) hZ96 (hw _ (List.mem_of_getElem? (i := 76) rfl)) (hw _ (List.mem_of_getElem? (i := 48) rfl)) (by decide) (by decide)) qiv110a qiv110c (g := (mkF m 200 #[.val (.int x0), .val (.int x1), .val (.int x2), .val (.int x3), .val (.int x4), .val (.ref b1), .val (.ref b9), .val (.ref b17), .val (.int ((x1 &&& (2147483647 : Int32)) % (5 : Int32))), .val (.int ((x3 &&& (2147483647 : Int32)) % (5 : Int32))), .val (.int (1 : Int32)), .val (.int (0 : Int32)), .val (.ref b81), .val (.ref b90), .val (.int ((x4 &&& (2147483647 : Int32)) % (3 : Int32))), .val .null, .val (.int (0 : Int32)), .unset, .unset] [.null, (.ref b81)])) rfl (by rw [hml]; rfl) (Steps.refl _) (argsL := [.null]) (rest := []) (lenOf own_pd_13 rfl) rfl (by show 2 * 0 + _ ≤ _; exact Nat.le_of_eq rfl) (hb hby at_200) (fun _ _ => ⟨rfl, e96, (by decide : 17 + 0 ≤ _), (by decide : 200 + 0 ≤ _)⟩)
          dsimp only [Pt.U, Pt.locs, Pt.cells, Pt.slots] at X111 l111 y111 z111 st111 hQ111
          subst l111 y111 z111
          obtain ⟨Nc111, e111, rfl⟩ := hQ111
          have N111 := Fr.app N96 Nc111
          refine own_goS st111 ?_
          show own_Goes p e below (T111.setTop (mkF m 203 #[.val (.int x0), .val (.int x1), .val (.int x2), .val (.int x3), .val (.int x4), .val (.ref b1), .val (.ref b9), .val (.ref b17), .val (.int ((x1 &&& (2147483647 : Int32)) % (5 : Int32))), .val (.int ((x3 &&& (2147483647 : Int32)) % (5 : Int32))), .val (.int (1 : Int32)), .val (.int (0 : Int32)), .val (.ref b81), .val (.ref b90), .val (.int ((x4 &&& (2147483647 : Int32)) % (3 : Int32))), .val .null, .val (.int (0 : Int32)), .unset, .unset] [(.int (0 : Int32))])) _
          refine own_go (fun t_ k_ => XS.istore X111.here hx rfl (hb hby at_203) rfl (l' := #[.val (.int x0), .val (.int x1), .val (.int x2), .val (.int x3), .val (.int x4), .val (.ref b1), .val (.ref b9), .val (.ref b17), .val (.int ((x1 &&& (2147483647 : Int32)) % (5 : Int32))), .val (.int ((x3 &&& (2147483647 : Int32)) % (5 : Int32))), .val (.int (1 : Int32)), .val (.int (0 : Int32)), .val (.ref b81), .val (.ref b90), .val (.int ((x4 &&& (2147483647 : Int32)) % (3 : Int32))), .val .null, .val (.int (0 : Int32)), .val (.int (0 : Int32)), .unset]) rfl k_) ?_
          show own_Goes p e below (T111.setTop (mkF m 205 #[.val (.int x0), .val (.int x1), .val (.int x2), .val (.int x3), .val (.int x4), .val (.ref b1), .val (.ref b9), .val (.ref b17), .val (.int ((x1 &&& (2147483647 : Int32)) % (5 : Int32))), .val (.int ((x3 &&& (2147483647 : Int32)) % (5 : Int32))), .val (.int (1 : Int32)), .val (.int (0 : Int32)), .val (.ref b81), .val (.ref b90), .val (.int ((x4 &&& (2147483647 : Int32)) % (3 : Int32))), .val .null, .val (.int (0 : Int32)), .val (.int (0 : Int32)), .unset] [])) _
          refine own_go (fun t_ k_ => XS.aload X111.here hx rfl (hb hby at_205) rfl rfl k_) ?_
          show own_Goes p e below (T111.setTop (mkF m 207 #[.val (.int x0), .val (.int x1), .val (.int x2), .val (.int x3), .val (.int x4), .val (.ref b1), .val (.ref b9), .val (.ref b17), .val (.int ((x1 &&& (2147483647 : Int32)) % (5 : Int32))), .val (.int ((x3 &&& (2147483647 : Int32)) % (5 : Int32))), .val (.int (1 : Int32)), .val (.int (0 : Int32)), .val (.ref b81), .val (.ref b90), .val (.int ((x4 &&& (2147483647 : Int32)) % (3 : Int32))), .val .null, .val (.int (0 : Int32)), .val (.int (0 : Int32)), .unset] [(.ref b81)])) _
          refine own_go (fun t_ k_ => XS.aload X111.here hx rfl (hb hby at_207) rfl rfl k_) ?_
          show own_Goes p e below (T111.setTop (mkF m 209 #[.val (.int x0), .val (.int x1), .val (.int x2), .val (.int x3), .val (.int x4), .val (.ref b1), .val (.ref b9), .val (.ref b17), .val (.int ((x1 &&& (2147483647 : Int32)) % (5 : Int32))), .val (.int ((x3 &&& (2147483647 : Int32)) % (5 : Int32))), .val (.int (1 : Int32)), .val (.int (0 : Int32)), .val (.ref b81), .val (.ref b90), .val (.int ((x4 &&& (2147483647 : Int32)) % (3 : Int32))), .val .null, .val (.int (0 : Int32)), .val (.int (0 : Int32)), .unset] [(.ref b81), (.ref b81)])) _
          have f112 := ((c87_0.ext E90).keep Kc96 (ninS (own_ne (a := b81) (b := b90) (by omega)) nin0))
          have f113 := ((c87_1.ext E90).keep Kc96 (ninS (own_ne (a := b81) (b := b90) (by omega)) nin0))
          obtain ⟨cqiv114, kqiv114, qiv114a, qiv114b, qiv114c⟩ := isOf hZ96 e111 f109
          obtain ⟨_, _, ⟨T115, L115, k115, n115⟩, -, X115, ⟨Lc115, hQ115, l115, y115, z115⟩, st115⟩ := X111.virtualBack hx (y := own_m14) (z := own_m14) hown96 (mvT hZ96 (hw _ (List.mem_of_getElem? (i := 72) rfl))) (mvT hZ96 (hw _ (List.mem_of_getElem? (i := 73) rfl))) (notFace_of_selects (args := #[]) (mvT hZ96 (hw _ (List.mem_of_getElem? (i := 75) rfl)))) (mvT hZ96 (hw _ (List.mem_of_getElem? (i := 75) rfl))) (mvT hZ96 (hw _ (List.mem_of_getElem? (i := 74) rfl))) (by decide) (backOf (W := 0) (own_eqT l Z a0 hw [] b81 b81 b9 b9 r_85 r_85 h96 n0 O97 f109 f112 f112 f113 f113 (show b9 = b9 from rfl) (show r_85 = r_85 from rfl)) hZ96 (hw _ (List.mem_of_getElem? (i := 76) rfl)) (hw _ (List.mem_of_getElem? (i := 48) rfl)) (by decide) (by decide)) qiv114a qiv114c (g := (mkF m 209 #[.val (.int x0), .val (.int x1), .val (.int x2), .val (.int x3), .val (.int x4), .val (.ref b1), .val (.ref b9), .val (.ref b17), .val (.int ((x1 &&& (2147483647 : Int32)) % (5 : Int32))), .val (.int ((x3 &&& (2147483647 : Int32)) % (5 : Int32))), .val (.int (1 : Int32)), .val (.int (0 : Int32)), .val (.ref b81), .val (.ref b90), .val (.int ((x4 &&& (2147483647 : Int32)) % (3 : Int32))), .val .null, .val (.int (0 : Int32)), .val (.int (0 : Int32)), .unset] [(.ref b81), (.ref b81)])) rfl (by rw [hml]; rfl) (Steps.refl _) (argsL := [(.ref b81)]) (rest := []) (lenOf own_pd_13 rfl) rfl (by show 2 * 0 + _ ≤ _; exact Nat.le_of_eq rfl) (hb hby at_209) (fun _ _ => ⟨rfl, e111, (by decide : 17 + 0 ≤ _), (by decide : 200 + 0 ≤ _)⟩)
          dsimp only [Pt.U, Pt.locs, Pt.cells, Pt.slots] at X115 l115 y115 z115 st115 hQ115
          subst l115 y115 z115
          obtain ⟨Nc115, e115, rfl⟩ := hQ115
          have N115 := Fr.app N111 Nc115
          refine own_goS st115 ?_
          show own_Goes p e below (T115.setTop (mkF m 212 #[.val (.int x0), .val (.int x1), .val (.int x2), .val (.int x3), .val (.int x4), .val (.ref b1), .val (.ref b9), .val (.ref b17), .val (.int ((x1 &&& (2147483647 : Int32)) % (5 : Int32))), .val (.int ((x3 &&& (2147483647 : Int32)) % (5 : Int32))), .val (.int (1 : Int32)), .val (.int (0 : Int32)), .val (.ref b81), .val (.ref b90), .val (.int ((x4 &&& (2147483647 : Int32)) % (3 : Int32))), .val .null, .val (.int (0 : Int32)), .val (.int (0 : Int32)), .unset] [(.int (1 : Int32))])) _
          refine own_go (fun t_ k_ => XS.istore X115.here hx rfl (hb hby at_212) rfl (l' := #[.val (.int x0), .val (.int x1), .val (.int x2), .val (.int x3), .val (.int x4), .val (.ref b1), .val (.ref b9), .val (.ref b17), .val (.int ((x1 &&& (2147483647 : Int32)) % (5 : Int32))), .val (.int ((x3 &&& (2147483647 : Int32)) % (5 : Int32))), .val (.int (1 : Int32)), .val (.int (0 : Int32)), .val (.ref b81), .val (.ref b90), .val (.int ((x4 &&& (2147483647 : Int32)) % (3 : Int32))), .val .null, .val (.int (0 : Int32)), .val (.int (0 : Int32)), .val (.int (1 : Int32))]) rfl k_) ?_
          show own_Goes p e below (T115.setTop (mkF m 214 #[.val (.int x0), .val (.int x1), .val (.int x2), .val (.int x3), .val (.int x4), .val (.ref b1), .val (.ref b9), .val (.ref b17), .val (.int ((x1 &&& (2147483647 : Int32)) % (5 : Int32))), .val (.int ((x3 &&& (2147483647 : Int32)) % (5 : Int32))), .val (.int (1 : Int32)), .val (.int (0 : Int32)), .val (.ref b81), .val (.ref b90), .val (.int ((x4 &&& (2147483647 : Int32)) % (3 : Int32))), .val .null, .val (.int (0 : Int32)), .val (.int (0 : Int32)), .val (.int (1 : Int32))] [])) _
          refine own_go (fun t_ k_ => XS.iload X115.here hx rfl (hb hby at_214) rfl k_) ?_
          show own_Goes p e below (T115.setTop (mkF m 216 #[.val (.int x0), .val (.int x1), .val (.int x2), .val (.int x3), .val (.int x4), .val (.ref b1), .val (.ref b9), .val (.ref b17), .val (.int ((x1 &&& (2147483647 : Int32)) % (5 : Int32))), .val (.int ((x3 &&& (2147483647 : Int32)) % (5 : Int32))), .val (.int (1 : Int32)), .val (.int (0 : Int32)), .val (.ref b81), .val (.ref b90), .val (.int ((x4 &&& (2147483647 : Int32)) % (3 : Int32))), .val .null, .val (.int (0 : Int32)), .val (.int (0 : Int32)), .val (.int (1 : Int32))] [(.int (0 : Int32))])) _
          refine own_go (fun t_ k_ => XS.iload X115.here hx rfl (hb hby at_216) rfl k_) ?_
          show own_Goes p e below (T115.setTop (mkF m 218 #[.val (.int x0), .val (.int x1), .val (.int x2), .val (.int x3), .val (.int x4), .val (.ref b1), .val (.ref b9), .val (.ref b17), .val (.int ((x1 &&& (2147483647 : Int32)) % (5 : Int32))), .val (.int ((x3 &&& (2147483647 : Int32)) % (5 : Int32))), .val (.int (1 : Int32)), .val (.int (0 : Int32)), .val (.ref b81), .val (.ref b90), .val (.int ((x4 &&& (2147483647 : Int32)) % (3 : Int32))), .val .null, .val (.int (0 : Int32)), .val (.int (0 : Int32)), .val (.int (1 : Int32))] [(.int (0 : Int32)), (.int (0 : Int32))])) _
          refine own_go (fun t_ k_ => XS.icmpNo X115.here hx rfl (hb hby at_218) rfl (teq (show ((0 : Int32) = (0 : Int32)) from by decide)).2 k_) ?_
          show own_Goes p e below (T115.setTop (mkF m 221 #[.val (.int x0), .val (.int x1), .val (.int x2), .val (.int x3), .val (.int x4), .val (.ref b1), .val (.ref b9), .val (.ref b17), .val (.int ((x1 &&& (2147483647 : Int32)) % (5 : Int32))), .val (.int ((x3 &&& (2147483647 : Int32)) % (5 : Int32))), .val (.int (1 : Int32)), .val (.int (0 : Int32)), .val (.ref b81), .val (.ref b90), .val (.int ((x4 &&& (2147483647 : Int32)) % (3 : Int32))), .val .null, .val (.int (0 : Int32)), .val (.int (0 : Int32)), .val (.int (1 : Int32))] [])) _
          refine own_go (fun t_ k_ => XS.iload X115.here hx rfl (hb hby at_221) rfl k_) ?_
          show own_Goes p e below (T115.setTop (mkF m 223 #[.val (.int x0), .val (.int x1), .val (.int x2), .val (.int x3), .val (.int x4), .val (.ref b1), .val (.ref b9), .val (.ref b17), .val (.int ((x1 &&& (2147483647 : Int32)) % (5 : Int32))), .val (.int ((x3 &&& (2147483647 : Int32)) % (5 : Int32))), .val (.int (1 : Int32)), .val (.int (0 : Int32)), .val (.ref b81), .val (.ref b90), .val (.int ((x4 &&& (2147483647 : Int32)) % (3 : Int32))), .val .null, .val (.int (0 : Int32)), .val (.int (0 : Int32)), .val (.int (1 : Int32))] [(.int (1 : Int32))])) _
          refine own_go (fun t_ k_ => XS.ifNo X115.here hx rfl (hb hby at_223) rfl ((if0 _ _).trans (feq (show ¬ ((1 : Int32) = (0 : Int32)) from by decide)).1) k_) ?_
          show own_Goes p e below (T115.setTop (mkF m 226 #[.val (.int x0), .val (.int x1), .val (.int x2), .val (.int x3), .val (.int x4), .val (.ref b1), .val (.ref b9), .val (.ref b17), .val (.int ((x1 &&& (2147483647 : Int32)) % (5 : Int32))), .val (.int ((x3 &&& (2147483647 : Int32)) % (5 : Int32))), .val (.int (1 : Int32)), .val (.int (0 : Int32)), .val (.ref b81), .val (.ref b90), .val (.int ((x4 &&& (2147483647 : Int32)) % (3 : Int32))), .val .null, .val (.int (0 : Int32)), .val (.int (0 : Int32)), .val (.int (1 : Int32))] [])) _
          refine own_go (fun t_ k_ => XS.iconst X115.here hx rfl (hb hby at_226) k_) ?_
          show own_Goes p e below (T115.setTop (mkF m 227 #[.val (.int x0), .val (.int x1), .val (.int x2), .val (.int x3), .val (.int x4), .val (.ref b1), .val (.ref b9), .val (.ref b17), .val (.int ((x1 &&& (2147483647 : Int32)) % (5 : Int32))), .val (.int ((x3 &&& (2147483647 : Int32)) % (5 : Int32))), .val (.int (1 : Int32)), .val (.int (0 : Int32)), .val (.ref b81), .val (.ref b90), .val (.int ((x4 &&& (2147483647 : Int32)) % (3 : Int32))), .val .null, .val (.int (0 : Int32)), .val (.int (0 : Int32)), .val (.int (1 : Int32))] [(.int (1 : Int32))])) _
          refine own_go (fun t_ k_ => XS.goto X115.here hx rfl (pc0 := 227) (pc' := 231) rfl (hb hby at_227) (by decide) (by decide) k_) ?_
          show own_Goes p e below (T115.setTop (mkF m 231 #[.val (.int x0), .val (.int x1), .val (.int x2), .val (.int x3), .val (.int x4), .val (.ref b1), .val (.ref b9), .val (.ref b17), .val (.int ((x1 &&& (2147483647 : Int32)) % (5 : Int32))), .val (.int ((x3 &&& (2147483647 : Int32)) % (5 : Int32))), .val (.int (1 : Int32)), .val (.int (0 : Int32)), .val (.ref b81), .val (.ref b90), .val (.int ((x4 &&& (2147483647 : Int32)) % (3 : Int32))), .val .null, .val (.int (0 : Int32)), .val (.int (0 : Int32)), .val (.int (1 : Int32))] [(.int (1 : Int32))])) _
          refine own_endW X115 hS96 (show _ ≤ T115.heap.size by rw [e115]; exact hk96) (v := (some (.int (1 : Int32)))) (fun h => by rw [hret] at h; cases h) hlk (by decide) (by decide) ?_ (fun fs hr => retOut X115 hx hret rfl (Or.inl ⟨rfl, Or.inr (Or.inl rfl), _, rfl⟩) (hb hby at_231) hr)
          show Q_rm0 Z x0 x1 x2 x3 x4 gw0 gw1 gw2 gw3 gw4 h0 n0 _ T115.heap _
          rw [e115]
          exact ⟨N115, trivial, rfl⟩
        · refine own_go (fun t_ k_ => XS.icmpYes X96.here hx rfl (pc0 := 147) (pc' := 156) rfl (hb hby at_147) rfl (feq hc108).2 (by decide) (by decide) k_) ?_
          show own_Goes p e below (T96.setTop (mkF m 156 #[.val (.int x0), .val (.int x1), .val (.int x2), .val (.int x3), .val (.int x4), .val (.ref b1), .val (.ref b9), .val (.ref b17), .val (.int ((x1 &&& (2147483647 : Int32)) % (5 : Int32))), .val (.int ((x3 &&& (2147483647 : Int32)) % (5 : Int32))), .val (.int (1 : Int32)), .val (.int (0 : Int32)), .val (.ref b81), .val (.ref b90), .val (.int ((x4 &&& (2147483647 : Int32)) % (3 : Int32))), .unset, .unset, .unset, .unset] [])) _
          refine own_go (fun t_ k_ => XS.iload X96.here hx rfl (hb hby at_156) rfl k_) ?_
          show own_Goes p e below (T96.setTop (mkF m 158 #[.val (.int x0), .val (.int x1), .val (.int x2), .val (.int x3), .val (.int x4), .val (.ref b1), .val (.ref b9), .val (.ref b17), .val (.int ((x1 &&& (2147483647 : Int32)) % (5 : Int32))), .val (.int ((x3 &&& (2147483647 : Int32)) % (5 : Int32))), .val (.int (1 : Int32)), .val (.int (0 : Int32)), .val (.ref b81), .val (.ref b90), .val (.int ((x4 &&& (2147483647 : Int32)) % (3 : Int32))), .unset, .unset, .unset, .unset] [(.int (0 : Int32))])) _
          refine own_go (fun t_ k_ => XS.ifYes X96.here hx rfl (pc0 := 158) (pc' := 166) rfl (hb hby at_158) rfl ((if0 _ _).trans (teq (show ((0 : Int32) = (0 : Int32)) from by decide)).1) (by decide) (by decide) k_) ?_
          show own_Goes p e below (T96.setTop (mkF m 166 #[.val (.int x0), .val (.int x1), .val (.int x2), .val (.int x3), .val (.int x4), .val (.ref b1), .val (.ref b9), .val (.ref b17), .val (.int ((x1 &&& (2147483647 : Int32)) % (5 : Int32))), .val (.int ((x3 &&& (2147483647 : Int32)) % (5 : Int32))), .val (.int (1 : Int32)), .val (.int (0 : Int32)), .val (.ref b81), .val (.ref b90), .val (.int ((x4 &&& (2147483647 : Int32)) % (3 : Int32))), .unset, .unset, .unset, .unset] [])) _
          refine own_go (fun t_ k_ => XS.aload X96.here hx rfl (hb hby at_166) rfl rfl k_) ?_
          show own_Goes p e below (T96.setTop (mkF m 168 #[.val (.int x0), .val (.int x1), .val (.int x2), .val (.int x3), .val (.int x4), .val (.ref b1), .val (.ref b9), .val (.ref b17), .val (.int ((x1 &&& (2147483647 : Int32)) % (5 : Int32))), .val (.int ((x3 &&& (2147483647 : Int32)) % (5 : Int32))), .val (.int (1 : Int32)), .val (.int (0 : Int32)), .val (.ref b81), .val (.ref b90), .val (.int ((x4 &&& (2147483647 : Int32)) % (3 : Int32))), .unset, .unset, .unset, .unset] [(.ref b17)])) _
          refine own_go (fun t_ k_ => XS.astore X96.here hx rfl (hb hby at_168) rfl rfl (l' := #[.val (.int x0), .val (.int x1), .val (.int x2), .val (.int x3), .val (.int x4), .val (.ref b1), .val (.ref b9), .val (.ref b17), .val (.int ((x1 &&& (2147483647 : Int32)) % (5 : Int32))), .val (.int ((x3 &&& (2147483647 : Int32)) % (5 : Int32))), .val (.int (1 : Int32)), .val (.int (0 : Int32)), .val (.ref b81), .val (.ref b90), .val (.int ((x4 &&& (2147483647 : Int32)) % (3 : Int32))), .val (.ref b17), .unset, .unset, .unset]) rfl k_) ?_
          show own_Goes p e below (T96.setTop (mkF m 170 #[.val (.int x0), .val (.int x1), .val (.int x2), .val (.int x3), .val (.int x4), .val (.ref b1), .val (.ref b9), .val (.ref b17), .val (.int ((x1 &&& (2147483647 : Int32)) % (5 : Int32))), .val (.int ((x3 &&& (2147483647 : Int32)) % (5 : Int32))), .val (.int (1 : Int32)), .val (.int (0 : Int32)), .val (.ref b81), .val (.ref b90), .val (.int ((x4 &&& (2147483647 : Int32)) % (3 : Int32))), .val (.ref b17), .unset, .unset, .unset] [])) _
          refine own_go (fun t_ k_ => XS.iload X96.here hx rfl (hb hby at_170) rfl k_) ?_
          show own_Goes p e below (T96.setTop (mkF m 172 #[.val (.int x0), .val (.int x1), .val (.int x2), .val (.int x3), .val (.int x4), .val (.ref b1), .val (.ref b9), .val (.ref b17), .val (.int ((x1 &&& (2147483647 : Int32)) % (5 : Int32))), .val (.int ((x3 &&& (2147483647 : Int32)) % (5 : Int32))), .val (.int (1 : Int32)), .val (.int (0 : Int32)), .val (.ref b81), .val (.ref b90), .val (.int ((x4 &&& (2147483647 : Int32)) % (3 : Int32))), .val (.ref b17), .unset, .unset, .unset] [(.int ((x4 &&& (2147483647 : Int32)) % (3 : Int32)))])) _
          refine own_go (fun t_ k_ => XS.ifYes X96.here hx rfl (pc0 := 172) (pc' := 193) rfl (hb hby at_172) rfl ((if0 _ _).trans (feq hc99).2) (by decide) (by decide) k_) ?_
          show own_Goes p e below (T96.setTop (mkF m 193 #[.val (.int x0), .val (.int x1), .val (.int x2), .val (.int x3), .val (.int x4), .val (.ref b1), .val (.ref b9), .val (.ref b17), .val (.int ((x1 &&& (2147483647 : Int32)) % (5 : Int32))), .val (.int ((x3 &&& (2147483647 : Int32)) % (5 : Int32))), .val (.int (1 : Int32)), .val (.int (0 : Int32)), .val (.ref b81), .val (.ref b90), .val (.int ((x4 &&& (2147483647 : Int32)) % (3 : Int32))), .val (.ref b17), .unset, .unset, .unset] [])) _
          refine own_go (fun t_ k_ => XS.iconst X96.here hx rfl (hb hby at_193) k_) ?_
          show own_Goes p e below (T96.setTop (mkF m 194 #[.val (.int x0), .val (.int x1), .val (.int x2), .val (.int x3), .val (.int x4), .val (.ref b1), .val (.ref b9), .val (.ref b17), .val (.int ((x1 &&& (2147483647 : Int32)) % (5 : Int32))), .val (.int ((x3 &&& (2147483647 : Int32)) % (5 : Int32))), .val (.int (1 : Int32)), .val (.int (0 : Int32)), .val (.ref b81), .val (.ref b90), .val (.int ((x4 &&& (2147483647 : Int32)) % (3 : Int32))), .val (.ref b17), .unset, .unset, .unset] [(.int (0 : Int32))])) _
          refine own_go (fun t_ k_ => XS.istore X96.here hx rfl (hb hby at_194) rfl (l' := #[.val (.int x0), .val (.int x1), .val (.int x2), .val (.int x3), .val (.int x4), .val (.ref b1), .val (.ref b9), .val (.ref b17), .val (.int ((x1 &&& (2147483647 : Int32)) % (5 : Int32))), .val (.int ((x3 &&& (2147483647 : Int32)) % (5 : Int32))), .val (.int (1 : Int32)), .val (.int (0 : Int32)), .val (.ref b81), .val (.ref b90), .val (.int ((x4 &&& (2147483647 : Int32)) % (3 : Int32))), .val (.ref b17), .val (.int (0 : Int32)), .unset, .unset]) rfl k_) ?_
          show own_Goes p e below (T96.setTop (mkF m 196 #[.val (.int x0), .val (.int x1), .val (.int x2), .val (.int x3), .val (.int x4), .val (.ref b1), .val (.ref b9), .val (.ref b17), .val (.int ((x1 &&& (2147483647 : Int32)) % (5 : Int32))), .val (.int ((x3 &&& (2147483647 : Int32)) % (5 : Int32))), .val (.int (1 : Int32)), .val (.int (0 : Int32)), .val (.ref b81), .val (.ref b90), .val (.int ((x4 &&& (2147483647 : Int32)) % (3 : Int32))), .val (.ref b17), .val (.int (0 : Int32)), .unset, .unset] [])) _
          refine own_go (fun t_ k_ => XS.aload X96.here hx rfl (hb hby at_196) rfl rfl k_) ?_
          show own_Goes p e below (T96.setTop (mkF m 198 #[.val (.int x0), .val (.int x1), .val (.int x2), .val (.int x3), .val (.int x4), .val (.ref b1), .val (.ref b9), .val (.ref b17), .val (.int ((x1 &&& (2147483647 : Int32)) % (5 : Int32))), .val (.int ((x3 &&& (2147483647 : Int32)) % (5 : Int32))), .val (.int (1 : Int32)), .val (.int (0 : Int32)), .val (.ref b81), .val (.ref b90), .val (.int ((x4 &&& (2147483647 : Int32)) % (3 : Int32))), .val (.ref b17), .val (.int (0 : Int32)), .unset, .unset] [(.ref b81)])) _
          refine own_go (fun t_ k_ => XS.aload X96.here hx rfl (hb hby at_198) rfl rfl k_) ?_
          show own_Goes p e below (T96.setTop (mkF m 200 #[.val (.int x0), .val (.int x1), .val (.int x2), .val (.int x3), .val (.int x4), .val (.ref b1), .val (.ref b9), .val (.ref b17), .val (.int ((x1 &&& (2147483647 : Int32)) % (5 : Int32))), .val (.int ((x3 &&& (2147483647 : Int32)) % (5 : Int32))), .val (.int (1 : Int32)), .val (.int (0 : Int32)), .val (.ref b81), .val (.ref b90), .val (.int ((x4 &&& (2147483647 : Int32)) % (3 : Int32))), .val (.ref b17), .val (.int (0 : Int32)), .unset, .unset] [(.ref b17), (.ref b81)])) _
          have f116 := (f95.keep Kc96)
          have f117 := (((A81.keep Kc87).ext E90).keep Kc96)
          obtain ⟨cqiv118, kqiv118, qiv118a, qiv118b, qiv118c⟩ := isOf hZ96 e96 f117
          obtain ⟨_, _, ⟨T119, L119, k119, n119⟩, -, X119, ⟨Lc119, hQ119, l119, y119, z119⟩, st119⟩ := X96.virtualBack hx (y := own_m14) (z := own_m14) hown96 (mvT hZ96 (hw _ (List.mem_of_getElem? (i := 72) rfl))) (mvT hZ96 (hw _ (List.mem_of_getElem? (i := 73) rfl))) (notFace_of_selects (args := #[]) (mvT hZ96 (hw _ (List.mem_of_getElem? (i := 75) rfl)))) (mvT hZ96 (hw _ (List.mem_of_getElem? (i := 75) rfl))) (mvT hZ96 (hw _ (List.mem_of_getElem? (i := 74) rfl))) (by decide) (backOf (W := 0) (own_eqO l Z a0 hw [] b81 b17 h96 n0 O97 f116) hZ96 (hw _ (List.mem_of_getElem? (i := 76) rfl)) (hw _ (List.mem_of_getElem? (i := 48) rfl)) (by decide) (by decide)) qiv118a qiv118c (g := (mkF m 200 #[.val (.int x0), .val (.int x1), .val (.int x2), .val (.int x3), .val (.int x4), .val (.ref b1), .val (.ref b9), .val (.ref b17), .val (.int ((x1 &&& (2147483647 : Int32)) % (5 : Int32))), .val (.int ((x3 &&& (2147483647 : Int32)) % (5 : Int32))), .val (.int (1 : Int32)), .val (.int (0 : Int32)), .val (.ref b81), .val (.ref b90), .val (.int ((x4 &&& (2147483647 : Int32)) % (3 : Int32))), .val (.ref b17), .val (.int (0 : Int32)), .unset, .unset] [(.ref b17), (.ref b81)])) rfl (by rw [hml]; rfl) (Steps.refl _) (argsL := [(.ref b17)]) (rest := []) (lenOf own_pd_13 rfl) rfl (by show 2 * 0 + _ ≤ _; exact Nat.le_of_eq rfl) (hb hby at_200) (fun _ _ => ⟨rfl, e96, (by decide : 17 + 0 ≤ _), (by decide : 200 + 0 ≤ _)⟩)
          dsimp only [Pt.U, Pt.locs, Pt.cells, Pt.slots] at X119 l119 y119 z119 st119 hQ119
          subst l119 y119 z119
          obtain ⟨Nc119, e119, rfl⟩ := hQ119
          have N119 := Fr.app N96 Nc119
          refine own_goS st119 ?_
          show own_Goes p e below (T119.setTop (mkF m 203 #[.val (.int x0), .val (.int x1), .val (.int x2), .val (.int x3), .val (.int x4), .val (.ref b1), .val (.ref b9), .val (.ref b17), .val (.int ((x1 &&& (2147483647 : Int32)) % (5 : Int32))), .val (.int ((x3 &&& (2147483647 : Int32)) % (5 : Int32))), .val (.int (1 : Int32)), .val (.int (0 : Int32)), .val (.ref b81), .val (.ref b90), .val (.int ((x4 &&& (2147483647 : Int32)) % (3 : Int32))), .val (.ref b17), .val (.int (0 : Int32)), .unset, .unset] [(.int (0 : Int32))])) _
          refine own_go (fun t_ k_ => XS.istore X119.here hx rfl (hb hby at_203) rfl (l' := #[.val (.int x0), .val (.int x1), .val (.int x2), .val (.int x3), .val (.int x4), .val (.ref b1), .val (.ref b9), .val (.ref b17), .val (.int ((x1 &&& (2147483647 : Int32)) % (5 : Int32))), .val (.int ((x3 &&& (2147483647 : Int32)) % (5 : Int32))), .val (.int (1 : Int32)), .val (.int (0 : Int32)), .val (.ref b81), .val (.ref b90), .val (.int ((x4 &&& (2147483647 : Int32)) % (3 : Int32))), .val (.ref b17), .val (.int (0 : Int32)), .val (.int (0 : Int32)), .unset]) rfl k_) ?_
          show own_Goes p e below (T119.setTop (mkF m 205 #[.val (.int x0), .val (.int x1), .val (.int x2), .val (.int x3), .val (.int x4), .val (.ref b1), .val (.ref b9), .val (.ref b17), .val (.int ((x1 &&& (2147483647 : Int32)) % (5 : Int32))), .val (.int ((x3 &&& (2147483647 : Int32)) % (5 : Int32))), .val (.int (1 : Int32)), .val (.int (0 : Int32)), .val (.ref b81), .val (.ref b90), .val (.int ((x4 &&& (2147483647 : Int32)) % (3 : Int32))), .val (.ref b17), .val (.int (0 : Int32)), .val (.int (0 : Int32)), .unset] [])) _
          refine own_go (fun t_ k_ => XS.aload X119.here hx rfl (hb hby at_205) rfl rfl k_) ?_
          show own_Goes p e below (T119.setTop (mkF m 207 #[.val (.int x0), .val (.int x1), .val (.int x2), .val (.int x3), .val (.int x4), .val (.ref b1), .val (.ref b9), .val (.ref b17), .val (.int ((x1 &&& (2147483647 : Int32)) % (5 : Int32))), .val (.int ((x3 &&& (2147483647 : Int32)) % (5 : Int32))), .val (.int (1 : Int32)), .val (.int (0 : Int32)), .val (.ref b81), .val (.ref b90), .val (.int ((x4 &&& (2147483647 : Int32)) % (3 : Int32))), .val (.ref b17), .val (.int (0 : Int32)), .val (.int (0 : Int32)), .unset] [(.ref b81)])) _
          refine own_go (fun t_ k_ => XS.aload X119.here hx rfl (hb hby at_207) rfl rfl k_) ?_
          show own_Goes p e below (T119.setTop (mkF m 209 #[.val (.int x0), .val (.int x1), .val (.int x2), .val (.int x3), .val (.int x4), .val (.ref b1), .val (.ref b9), .val (.ref b17), .val (.int ((x1 &&& (2147483647 : Int32)) % (5 : Int32))), .val (.int ((x3 &&& (2147483647 : Int32)) % (5 : Int32))), .val (.int (1 : Int32)), .val (.int (0 : Int32)), .val (.ref b81), .val (.ref b90), .val (.int ((x4 &&& (2147483647 : Int32)) % (3 : Int32))), .val (.ref b17), .val (.int (0 : Int32)), .val (.int (0 : Int32)), .unset] [(.ref b81), (.ref b81)])) _
          have f120 := ((c87_0.ext E90).keep Kc96 (ninS (own_ne (a := b81) (b := b90) (by omega)) nin0))
          have f121 := ((c87_1.ext E90).keep Kc96 (ninS (own_ne (a := b81) (b := b90) (by omega)) nin0))
          obtain ⟨cqiv122, kqiv122, qiv122a, qiv122b, qiv122c⟩ := isOf hZ96 e119 f117
          obtain ⟨_, _, ⟨T123, L123, k123, n123⟩, -, X123, ⟨Lc123, hQ123, l123, y123, z123⟩, st123⟩ := X119.virtualBack hx (y := own_m14) (z := own_m14) hown96 (mvT hZ96 (hw _ (List.mem_of_getElem? (i := 72) rfl))) (mvT hZ96 (hw _ (List.mem_of_getElem? (i := 73) rfl))) (notFace_of_selects (args := #[]) (mvT hZ96 (hw _ (List.mem_of_getElem? (i := 75) rfl)))) (mvT hZ96 (hw _ (List.mem_of_getElem? (i := 75) rfl))) (mvT hZ96 (hw _ (List.mem_of_getElem? (i := 74) rfl))) (by decide) (backOf (W := 0) (own_eqT l Z a0 hw [] b81 b81 b9 b9 r_85 r_85 h96 n0 O97 f117 f120 f120 f121 f121 (show b9 = b9 from rfl) (show r_85 = r_85 from rfl)) hZ96 (hw _ (List.mem_of_getElem? (i := 76) rfl)) (hw _ (List.mem_of_getElem? (i := 48) rfl)) (by decide) (by decide)) qiv122a qiv122c (g := (mkF m 209 #[.val (.int x0), .val (.int x1), .val (.int x2), .val (.int x3), .val (.int x4), .val (.ref b1), .val (.ref b9), .val (.ref b17), .val (.int ((x1 &&& (2147483647 : Int32)) % (5 : Int32))), .val (.int ((x3 &&& (2147483647 : Int32)) % (5 : Int32))), .val (.int (1 : Int32)), .val (.int (0 : Int32)), .val (.ref b81), .val (.ref b90), .val (.int ((x4 &&& (2147483647 : Int32)) % (3 : Int32))), .val (.ref b17), .val (.int (0 : Int32)), .val (.int (0 : Int32)), .unset] [(.ref b81), (.ref b81)])) rfl (by rw [hml]; rfl) (Steps.refl _) (argsL := [(.ref b81)]) (rest := []) (lenOf own_pd_13 rfl) rfl (by show 2 * 0 + _ ≤ _; exact Nat.le_of_eq rfl) (hb hby at_209) (fun _ _ => ⟨rfl, e119, (by decide : 17 + 0 ≤ _), (by decide : 200 + 0 ≤ _)⟩)
          dsimp only [Pt.U, Pt.locs, Pt.cells, Pt.slots] at X123 l123 y123 z123 st123 hQ123
          subst l123 y123 z123
          obtain ⟨Nc123, e123, rfl⟩ := hQ123
          have N123 := Fr.app N119 Nc123
          refine own_goS st123 ?_
          show own_Goes p e below (T123.setTop (mkF m 212 #[.val (.int x0), .val (.int x1), .val (.int x2), .val (.int x3), .val (.int x4), .val (.ref b1), .val (.ref b9), .val (.ref b17), .val (.int ((x1 &&& (2147483647 : Int32)) % (5 : Int32))), .val (.int ((x3 &&& (2147483647 : Int32)) % (5 : Int32))), .val (.int (1 : Int32)), .val (.int (0 : Int32)), .val (.ref b81), .val (.ref b90), .val (.int ((x4 &&& (2147483647 : Int32)) % (3 : Int32))), .val (.ref b17), .val (.int (0 : Int32)), .val (.int (0 : Int32)), .unset] [(.int (1 : Int32))])) _
          refine own_go (fun t_ k_ => XS.istore X123.here hx rfl (hb hby at_212) rfl (l' := #[.val (.int x0), .val (.int x1), .val (.int x2), .val (.int x3), .val (.int x4), .val (.ref b1), .val (.ref b9), .val (.ref b17), .val (.int ((x1 &&& (2147483647 : Int32)) % (5 : Int32))), .val (.int ((x3 &&& (2147483647 : Int32)) % (5 : Int32))), .val (.int (1 : Int32)), .val (.int (0 : Int32)), .val (.ref b81), .val (.ref b90), .val (.int ((x4 &&& (2147483647 : Int32)) % (3 : Int32))), .val (.ref b17), .val (.int (0 : Int32)), .val (.int (0 : Int32)), .val (.int (1 : Int32))]) rfl k_) ?_
          show own_Goes p e below (T123.setTop (mkF m 214 #[.val (.int x0), .val (.int x1), .val (.int x2), .val (.int x3), .val (.int x4), .val (.ref b1), .val (.ref b9), .val (.ref b17), .val (.int ((x1 &&& (2147483647 : Int32)) % (5 : Int32))), .val (.int ((x3 &&& (2147483647 : Int32)) % (5 : Int32))), .val (.int (1 : Int32)), .val (.int (0 : Int32)), .val (.ref b81), .val (.ref b90), .val (.int ((x4 &&& (2147483647 : Int32)) % (3 : Int32))), .val (.ref b17), .val (.int (0 : Int32)), .val (.int (0 : Int32)), .val (.int (1 : Int32))] [])) _
          refine own_go (fun t_ k_ => XS.iload X123.here hx rfl (hb hby at_214) rfl k_) ?_
          show own_Goes p e below (T123.setTop (mkF m 216 #[.val (.int x0), .val (.int x1), .val (.int x2), .val (.int x3), .val (.int x4), .val (.ref b1), .val (.ref b9), .val (.ref b17), .val (.int ((x1 &&& (2147483647 : Int32)) % (5 : Int32))), .val (.int ((x3 &&& (2147483647 : Int32)) % (5 : Int32))), .val (.int (1 : Int32)), .val (.int (0 : Int32)), .val (.ref b81), .val (.ref b90), .val (.int ((x4 &&& (2147483647 : Int32)) % (3 : Int32))), .val (.ref b17), .val (.int (0 : Int32)), .val (.int (0 : Int32)), .val (.int (1 : Int32))] [(.int (0 : Int32))])) _
          refine own_go (fun t_ k_ => XS.iload X123.here hx rfl (hb hby at_216) rfl k_) ?_
          show own_Goes p e below (T123.setTop (mkF m 218 #[.val (.int x0), .val (.int x1), .val (.int x2), .val (.int x3), .val (.int x4), .val (.ref b1), .val (.ref b9), .val (.ref b17), .val (.int ((x1 &&& (2147483647 : Int32)) % (5 : Int32))), .val (.int ((x3 &&& (2147483647 : Int32)) % (5 : Int32))), .val (.int (1 : Int32)), .val (.int (0 : Int32)), .val (.ref b81), .val (.ref b90), .val (.int ((x4 &&& (2147483647 : Int32)) % (3 : Int32))), .val (.ref b17), .val (.int (0 : Int32)), .val (.int (0 : Int32)), .val (.int (1 : Int32))] [(.int (0 : Int32)), (.int (0 : Int32))])) _
          refine own_go (fun t_ k_ => XS.icmpNo X123.here hx rfl (hb hby at_218) rfl (teq (show ((0 : Int32) = (0 : Int32)) from by decide)).2 k_) ?_
          show own_Goes p e below (T123.setTop (mkF m 221 #[.val (.int x0), .val (.int x1), .val (.int x2), .val (.int x3), .val (.int x4), .val (.ref b1), .val (.ref b9), .val (.ref b17), .val (.int ((x1 &&& (2147483647 : Int32)) % (5 : Int32))), .val (.int ((x3 &&& (2147483647 : Int32)) % (5 : Int32))), .val (.int (1 : Int32)), .val (.int (0 : Int32)), .val (.ref b81), .val (.ref b90), .val (.int ((x4 &&& (2147483647 : Int32)) % (3 : Int32))), .val (.ref b17), .val (.int (0 : Int32)), .val (.int (0 : Int32)), .val (.int (1 : Int32))] [])) _
          refine own_go (fun t_ k_ => XS.iload X123.here hx rfl (hb hby at_221) rfl k_) ?_
          show own_Goes p e below (T123.setTop (mkF m 223 #[.val (.int x0), .val (.int x1), .val (.int x2), .val (.int x3), .val (.int x4), .val (.ref b1), .val (.ref b9), .val (.ref b17), .val (.int ((x1 &&& (2147483647 : Int32)) % (5 : Int32))), .val (.int ((x3 &&& (2147483647 : Int32)) % (5 : Int32))), .val (.int (1 : Int32)), .val (.int (0 : Int32)), .val (.ref b81), .val (.ref b90), .val (.int ((x4 &&& (2147483647 : Int32)) % (3 : Int32))), .val (.ref b17), .val (.int (0 : Int32)), .val (.int (0 : Int32)), .val (.int (1 : Int32))] [(.int (1 : Int32))])) _
          refine own_go (fun t_ k_ => XS.ifNo X123.here hx rfl (hb hby at_223) rfl ((if0 _ _).trans (feq (show ¬ ((1 : Int32) = (0 : Int32)) from by decide)).1) k_) ?_
          show own_Goes p e below (T123.setTop (mkF m 226 #[.val (.int x0), .val (.int x1), .val (.int x2), .val (.int x3), .val (.int x4), .val (.ref b1), .val (.ref b9), .val (.ref b17), .val (.int ((x1 &&& (2147483647 : Int32)) % (5 : Int32))), .val (.int ((x3 &&& (2147483647 : Int32)) % (5 : Int32))), .val (.int (1 : Int32)), .val (.int (0 : Int32)), .val (.ref b81), .val (.ref b90), .val (.int ((x4 &&& (2147483647 : Int32)) % (3 : Int32))), .val (.ref b17), .val (.int (0 : Int32)), .val (.int (0 : Int32)), .val (.int (1 : Int32))] [])) _
          refine own_go (fun t_ k_ => XS.iconst X123.here hx rfl (hb hby at_226) k_) ?_
          show own_Goes p e below (T123.setTop (mkF m 227 #[.val (.int x0), .val (.int x1), .val (.int x2), .val (.int x3), .val (.int x4), .val (.ref b1), .val (.ref b9), .val (.ref b17), .val (.int ((x1 &&& (2147483647 : Int32)) % (5 : Int32))), .val (.int ((x3 &&& (2147483647 : Int32)) % (5 : Int32))), .val (.int (1 : Int32)), .val (.int (0 : Int32)), .val (.ref b81), .val (.ref b90), .val (.int ((x4 &&& (2147483647 : Int32)) % (3 : Int32))), .val (.ref b17), .val (.int (0 : Int32)), .val (.int (0 : Int32)), .val (.int (1 : Int32))] [(.int (1 : Int32))])) _
          refine own_go (fun t_ k_ => XS.goto X123.here hx rfl (pc0 := 227) (pc' := 231) rfl (hb hby at_227) (by decide) (by decide) k_) ?_
          show own_Goes p e below (T123.setTop (mkF m 231 #[.val (.int x0), .val (.int x1), .val (.int x2), .val (.int x3), .val (.int x4), .val (.ref b1), .val (.ref b9), .val (.ref b17), .val (.int ((x1 &&& (2147483647 : Int32)) % (5 : Int32))), .val (.int ((x3 &&& (2147483647 : Int32)) % (5 : Int32))), .val (.int (1 : Int32)), .val (.int (0 : Int32)), .val (.ref b81), .val (.ref b90), .val (.int ((x4 &&& (2147483647 : Int32)) % (3 : Int32))), .val (.ref b17), .val (.int (0 : Int32)), .val (.int (0 : Int32)), .val (.int (1 : Int32))] [(.int (1 : Int32))])) _
          refine own_endW X123 hS96 (show _ ≤ T123.heap.size by rw [e123]; exact hk96) (v := (some (.int (1 : Int32)))) (fun h => by rw [hret] at h; cases h) hlk (by decide) (by decide) ?_ (fun fs hr => retOut X123 hx hret rfl (Or.inl ⟨rfl, Or.inr (Or.inl rfl), _, rfl⟩) (hb hby at_231) hr)
          show Q_rm0 Z x0 x1 x2 x3 x4 gw0 gw1 gw2 gw3 gw4 h0 n0 _ T123.heap _
          rw [e123]
          exact ⟨N123, trivial, rfl⟩
  · refine own_go (fun t_ k_ => XS.ifYes X26.here hx rfl (pc0 := 48) (pc' := 55) rfl (hb hby at_48) rfl ((if0 _ _).trans (feq hc27).2) (by decide) (by decide) k_) ?_
    show own_Goes p e below (T26.setTop (mkF m 55 #[.val (.int x0), .val (.int x1), .val (.int x2), .val (.int x3), .val (.int x4), .val (.ref b1), .val (.ref b9), .val (.ref b17), .val (.int ((x1 &&& (2147483647 : Int32)) % (5 : Int32))), .val (.int ((x3 &&& (2147483647 : Int32)) % (5 : Int32))), .unset, .unset, .unset, .unset, .unset, .unset, .unset, .unset, .unset] [])) _
    refine own_go (fun t_ k_ => XS.iconst X26.here hx rfl (hb hby at_55) k_) ?_
    show own_Goes p e below (T26.setTop (mkF m 56 #[.val (.int x0), .val (.int x1), .val (.int x2), .val (.int x3), .val (.int x4), .val (.ref b1), .val (.ref b9), .val (.ref b17), .val (.int ((x1 &&& (2147483647 : Int32)) % (5 : Int32))), .val (.int ((x3 &&& (2147483647 : Int32)) % (5 : Int32))), .unset, .unset, .unset, .unset, .unset, .unset, .unset, .unset, .unset] [(.int (0 : Int32))])) _
    refine own_go (fun t_ k_ => XS.istore X26.here hx rfl (hb hby at_56) rfl (l' := #[.val (.int x0), .val (.int x1), .val (.int x2), .val (.int x3), .val (.int x4), .val (.ref b1), .val (.ref b9), .val (.ref b17), .val (.int ((x1 &&& (2147483647 : Int32)) % (5 : Int32))), .val (.int ((x3 &&& (2147483647 : Int32)) % (5 : Int32))), .val (.int (0 : Int32)), .unset, .unset, .unset, .unset, .unset, .unset, .unset, .unset]) rfl k_) ?_
    show own_Goes p e below (T26.setTop (mkF m 58 #[.val (.int x0), .val (.int x1), .val (.int x2), .val (.int x3), .val (.int x4), .val (.ref b1), .val (.ref b9), .val (.ref b17), .val (.int ((x1 &&& (2147483647 : Int32)) % (5 : Int32))), .val (.int ((x3 &&& (2147483647 : Int32)) % (5 : Int32))), .val (.int (0 : Int32)), .unset, .unset, .unset, .unset, .unset, .unset, .unset, .unset] [])) _
    refine own_go (fun t_ k_ => XS.iloadN X26.here hx rfl (hb hby at_58) rfl k_) ?_
    show own_Goes p e below (T26.setTop (mkF m 59 #[.val (.int x0), .val (.int x1), .val (.int x2), .val (.int x3), .val (.int x4), .val (.ref b1), .val (.ref b9), .val (.ref b17), .val (.int ((x1 &&& (2147483647 : Int32)) % (5 : Int32))), .val (.int ((x3 &&& (2147483647 : Int32)) % (5 : Int32))), .val (.int (0 : Int32)), .unset, .unset, .unset, .unset, .unset, .unset, .unset, .unset] [(.int x2)])) _
    refine own_go (fun t_ k_ => XS.iconst X26.here hx rfl (hb hby at_59) k_) ?_
    show own_Goes p e below (T26.setTop (mkF m 60 #[.val (.int x0), .val (.int x1), .val (.int x2), .val (.int x3), .val (.int x4), .val (.ref b1), .val (.ref b9), .val (.ref b17), .val (.int ((x1 &&& (2147483647 : Int32)) % (5 : Int32))), .val (.int ((x3 &&& (2147483647 : Int32)) % (5 : Int32))), .val (.int (0 : Int32)), .unset, .unset, .unset, .unset, .unset, .unset, .unset, .unset] [(.int (1 : Int32)), (.int x2)])) _
    refine own_go (fun t_ k_ => XS.iand X26.here hx rfl (hb hby at_60) rfl k_) ?_
    show own_Goes p e below (T26.setTop (mkF m 61 #[.val (.int x0), .val (.int x1), .val (.int x2), .val (.int x3), .val (.int x4), .val (.ref b1), .val (.ref b9), .val (.ref b17), .val (.int ((x1 &&& (2147483647 : Int32)) % (5 : Int32))), .val (.int ((x3 &&& (2147483647 : Int32)) % (5 : Int32))), .val (.int (0 : Int32)), .unset, .unset, .unset, .unset, .unset, .unset, .unset, .unset] [(.int (x2 &&& (1 : Int32)))])) _
    by_cases hc124 : (x2 &&& (1 : Int32)) = (0 : Int32)
    · refine own_go (fun t_ k_ => XS.ifNo X26.here hx rfl (hb hby at_61) rfl ((if0 _ _).trans (teq hc124).2) k_) ?_
      show own_Goes p e below (T26.setTop (mkF m 64 #[.val (.int x0), .val (.int x1), .val (.int x2), .val (.int x3), .val (.int x4), .val (.ref b1), .val (.ref b9), .val (.ref b17), .val (.int ((x1 &&& (2147483647 : Int32)) % (5 : Int32))), .val (.int ((x3 &&& (2147483647 : Int32)) % (5 : Int32))), .val (.int (0 : Int32)), .unset, .unset, .unset, .unset, .unset, .unset, .unset, .unset] [])) _
      refine own_go (fun t_ k_ => XS.iconst X26.here hx rfl (hb hby at_64) k_) ?_
      show own_Goes p e below (T26.setTop (mkF m 65 #[.val (.int x0), .val (.int x1), .val (.int x2), .val (.int x3), .val (.int x4), .val (.ref b1), .val (.ref b9), .val (.ref b17), .val (.int ((x1 &&& (2147483647 : Int32)) % (5 : Int32))), .val (.int ((x3 &&& (2147483647 : Int32)) % (5 : Int32))), .val (.int (0 : Int32)), .unset, .unset, .unset, .unset, .unset, .unset, .unset, .unset] [(.int (1 : Int32))])) _
      refine own_go (fun t_ k_ => XS.goto X26.here hx rfl (pc0 := 65) (pc' := 69) rfl (hb hby at_65) (by decide) (by decide) k_) ?_
      show own_Goes p e below (T26.setTop (mkF m 69 #[.val (.int x0), .val (.int x1), .val (.int x2), .val (.int x3), .val (.int x4), .val (.ref b1), .val (.ref b9), .val (.ref b17), .val (.int ((x1 &&& (2147483647 : Int32)) % (5 : Int32))), .val (.int ((x3 &&& (2147483647 : Int32)) % (5 : Int32))), .val (.int (0 : Int32)), .unset, .unset, .unset, .unset, .unset, .unset, .unset, .unset] [(.int (1 : Int32))])) _
      refine own_go (fun t_ k_ => XS.istore X26.here hx rfl (hb hby at_69) rfl (l' := #[.val (.int x0), .val (.int x1), .val (.int x2), .val (.int x3), .val (.int x4), .val (.ref b1), .val (.ref b9), .val (.ref b17), .val (.int ((x1 &&& (2147483647 : Int32)) % (5 : Int32))), .val (.int ((x3 &&& (2147483647 : Int32)) % (5 : Int32))), .val (.int (0 : Int32)), .val (.int (1 : Int32)), .unset, .unset, .unset, .unset, .unset, .unset, .unset]) rfl k_) ?_
      show own_Goes p e below (T26.setTop (mkF m 71 #[.val (.int x0), .val (.int x1), .val (.int x2), .val (.int x3), .val (.int x4), .val (.ref b1), .val (.ref b9), .val (.ref b17), .val (.int ((x1 &&& (2147483647 : Int32)) % (5 : Int32))), .val (.int ((x3 &&& (2147483647 : Int32)) % (5 : Int32))), .val (.int (0 : Int32)), .val (.int (1 : Int32)), .unset, .unset, .unset, .unset, .unset, .unset, .unset] [])) _
      obtain ⟨T125, h125, X125, e125, E125, A125, D125, -, st125⟩ := newO X26 hx hZ22 hown22 (hw _ (List.mem_of_getElem? (i := 46) rfl)) (hw _ (List.mem_of_getElem? (i := 47) rfl)) (hw _ (List.mem_of_getElem? (i := 48) rfl)) e26 (g := (mkF m 71 #[.val (.int x0), .val (.int x1), .val (.int x2), .val (.int x3), .val (.int x4), .val (.ref b1), .val (.ref b9), .val (.ref b17), .val (.int ((x1 &&& (2147483647 : Int32)) % (5 : Int32))), .val (.int ((x3 &&& (2147483647 : Int32)) % (5 : Int32))), .val (.int (0 : Int32)), .val (.int (1 : Int32)), .unset, .unset, .unset, .unset, .unset, .unset, .unset] [])) rfl (hb hby at_71) (by decide) (by decide)
      obtain ⟨b125, g125⟩ : ∃ z, z = h22.size := ⟨_, rfl⟩
      rw [← g125] at A125 D125 st125
      refine own_go st125 ?_
      have O126 := O23.ext E125
      have sz127 : h22.size ≤ h125.size := E125.1
      have hk128 := Nat.le_trans hk22 E125.1
      have l125 : b125 < h125.size := A125.lt
      have F125_process : Fld Z h125 b125 "com/example/breach_or_proof/breachorproof/analysis/PathStep" "process" "Lcom/example/breach_or_proof/breachorproof/Process;" .null := D125 (Or.inr (hw _ (List.mem_of_getElem? (i := 64) rfl))) (ty := (.object "com/example/breach_or_proof/breachorproof/Process")) (by decide)
      have F125_branch : Fld Z h125 b125 "com/example/breach_or_proof/breachorproof/analysis/PathStep" "branch" "Lcom/example/breach_or_proof/breachorproof/analysis/PathStep$Branch;" .null := D125 (Or.inr (hw _ (List.mem_of_getElem? (i := 69) rfl))) (ty := (.object "com/example/breach_or_proof/breachorproof/analysis/PathStep$Branch")) (by decide)
      show own_Goes p e below (T125.setTop (mkF m 74 #[.val (.int x0), .val (.int x1), .val (.int x2), .val (.int x3), .val (.int x4), .val (.ref b1), .val (.ref b9), .val (.ref b17), .val (.int ((x1 &&& (2147483647 : Int32)) % (5 : Int32))), .val (.int ((x3 &&& (2147483647 : Int32)) % (5 : Int32))), .val (.int (0 : Int32)), .val (.int (1 : Int32)), .unset, .unset, .unset, .unset, .unset, .unset, .unset] [(.ref b125)])) _
      refine own_go (fun t_ k_ => XS.dup X125.here hx rfl (hb hby at_74) rfl rfl k_) ?_
      show own_Goes p e below (T125.setTop (mkF m 75 #[.val (.int x0), .val (.int x1), .val (.int x2), .val (.int x3), .val (.int x4), .val (.ref b1), .val (.ref b9), .val (.ref b17), .val (.int ((x1 &&& (2147483647 : Int32)) % (5 : Int32))), .val (.int ((x3 &&& (2147483647 : Int32)) % (5 : Int32))), .val (.int (0 : Int32)), .val (.int (1 : Int32)), .unset, .unset, .unset, .unset, .unset, .unset, .unset] [(.ref b125), (.ref b125)])) _
      refine own_go (fun t_ k_ => XS.iload X125.here hx rfl (hb hby at_75) rfl k_) ?_
      show own_Goes p e below (T125.setTop (mkF m 77 #[.val (.int x0), .val (.int x1), .val (.int x2), .val (.int x3), .val (.int x4), .val (.ref b1), .val (.ref b9), .val (.ref b17), .val (.int ((x1 &&& (2147483647 : Int32)) % (5 : Int32))), .val (.int ((x3 &&& (2147483647 : Int32)) % (5 : Int32))), .val (.int (0 : Int32)), .val (.int (1 : Int32)), .unset, .unset, .unset, .unset, .unset, .unset, .unset] [(.int (0 : Int32)), (.ref b125), (.ref b125)])) _
      refine own_go (fun t_ k_ => XS.ifYes X125.here hx rfl (pc0 := 77) (pc' := 85) rfl (hb hby at_77) rfl ((if0 _ _).trans (teq (show ((0 : Int32) = (0 : Int32)) from by decide)).1) (by decide) (by decide) k_) ?_
      show own_Goes p e below (T125.setTop (mkF m 85 #[.val (.int x0), .val (.int x1), .val (.int x2), .val (.int x3), .val (.int x4), .val (.ref b1), .val (.ref b9), .val (.ref b17), .val (.int ((x1 &&& (2147483647 : Int32)) % (5 : Int32))), .val (.int ((x3 &&& (2147483647 : Int32)) % (5 : Int32))), .val (.int (0 : Int32)), .val (.int (1 : Int32)), .unset, .unset, .unset, .unset, .unset, .unset, .unset] [(.ref b125), (.ref b125)])) _
      refine own_go (fun t_ k_ => XS.aload X125.here hx rfl (hb hby at_85) rfl rfl k_) ?_
      show own_Goes p e below (T125.setTop (mkF m 87 #[.val (.int x0), .val (.int x1), .val (.int x2), .val (.int x3), .val (.int x4), .val (.ref b1), .val (.ref b9), .val (.ref b17), .val (.int ((x1 &&& (2147483647 : Int32)) % (5 : Int32))), .val (.int ((x3 &&& (2147483647 : Int32)) % (5 : Int32))), .val (.int (0 : Int32)), .val (.int (1 : Int32)), .unset, .unset, .unset, .unset, .unset, .unset, .unset] [(.ref b17), (.ref b125), (.ref b125)])) _
      refine own_go (fun t_ k_ => XS.iload X125.here hx rfl (hb hby at_87) rfl k_) ?_
      show own_Goes p e below (T125.setTop (mkF m 89 #[.val (.int x0), .val (.int x1), .val (.int x2), .val (.int x3), .val (.int x4), .val (.ref b1), .val (.ref b9), .val (.ref b17), .val (.int ((x1 &&& (2147483647 : Int32)) % (5 : Int32))), .val (.int ((x3 &&& (2147483647 : Int32)) % (5 : Int32))), .val (.int (0 : Int32)), .val (.int (1 : Int32)), .unset, .unset, .unset, .unset, .unset, .unset, .unset] [(.int ((x1 &&& (2147483647 : Int32)) % (5 : Int32))), (.ref b17), (.ref b125), (.ref b125)])) _
      obtain ⟨_, _, ⟨T129, L129, k129, n129⟩, -, X129, ⟨Lc129, hQ129, l129, y129, z129⟩, st129⟩ := Jvm.LawKit.callS X125 hx (y := own_m10) hown22 (mvT hZ22 (hw _ (List.mem_of_getElem? (i := 49) rfl))) (mvT hZ22 (hw _ (List.mem_of_getElem? (i := 50) rfl))) (mvT hZ22 (hw _ (List.mem_of_getElem? (i := 43) rfl))) (mvT hZ22 (hw _ (List.mem_of_getElem? (i := 51) rfl))) (by decide) (backOf (W := 3) (own_branch l Z a0 hw [] ((x1 &&& (2147483647 : Int32)) % (5 : Int32)) h125 n0 O126 gw0 gw1 gw2 gw3 gw4 G (show 0 ≤ ((x1 &&& (2147483647 : Int32)) % (5 : Int32)).toInt ∧ ((x1 &&& (2147483647 : Int32)) % (5 : Int32)).toInt < 5 from (own_rng _))) hZ22 (hw _ (List.mem_of_getElem? (i := 51) rfl)) (hw _ (List.mem_of_getElem? (i := 43) rfl)) (by decide) (by decide)) (g := (mkF m 89 #[.val (.int x0), .val (.int x1), .val (.int x2), .val (.int x3), .val (.int x4), .val (.ref b1), .val (.ref b9), .val (.ref b17), .val (.int ((x1 &&& (2147483647 : Int32)) % (5 : Int32))), .val (.int ((x3 &&& (2147483647 : Int32)) % (5 : Int32))), .val (.int (0 : Int32)), .val (.int (1 : Int32)), .unset, .unset, .unset, .unset, .unset, .unset, .unset] [(.int ((x1 &&& (2147483647 : Int32)) % (5 : Int32))), (.ref b17), (.ref b125), (.ref b125)])) rfl (by rw [hml]; rfl) (argsL := [(.int ((x1 &&& (2147483647 : Int32)) % (5 : Int32)))]) (rest := [(.ref b17), (.ref b125), (.ref b125)]) (lenOf own_pd_9 rfl) rfl (by show 2 * 0 + _ ≤ _; exact Nat.le_of_eq rfl) (hb hby at_89) (fun _ _ => ⟨rfl, e125, (by decide : 8 + 0 ≤ _), (by decide : 78 + 0 ≤ _)⟩)
      dsimp only [Pt.U, Pt.locs, Pt.cells, Pt.slots] at X129 l129 y129 z129 st129 hQ129
      subst l129 y129 z129
      obtain ⟨Nc129, e129, r_129, rfl, c129_0, c129_1, c129_2⟩ := hQ129
      rw [e129] at c129_0
      have N129 := Fr.app N26 Nc129
      have ltc129_0 : r_129 < h125.size := c129_0.lt
      refine own_go st129 ?_
      show own_Goes p e below (T129.setTop (mkF m 92 #[.val (.int x0), .val (.int x1), .val (.int x2), .val (.int x3), .val (.int x4), .val (.ref b1), .val (.ref b9), .val (.ref b17), .val (.int ((x1 &&& (2147483647 : Int32)) % (5 : Int32))), .val (.int ((x3 &&& (2147483647 : Int32)) % (5 : Int32))), .val (.int (0 : Int32)), .val (.int (1 : Int32)), .unset, .unset, .unset, .unset, .unset, .unset, .unset] [(.ref r_129), (.ref b17), (.ref b125), (.ref b125)])) _
      have f130 := ((A17.keep Kc22).ext E125)
      obtain ⟨_, _, ⟨T131, L131, k131, n131⟩, -, X131, hS131, gr131, ⟨Lc131, hQ131, l131, y131, z131⟩, st131⟩ := X129.specialBackS hx (y := own_m12) rfl hown22 (mvT hZ22 (hw _ (List.mem_of_getElem? (i := 55) rfl))) (mvT hZ22 (hw _ (List.mem_of_getElem? (i := 56) rfl))) (mvT hZ22 (hw _ (List.mem_of_getElem? (i := 57) rfl))) (by decide) (backOfS (W := 1) (own_psInit l Z a0 hw [] b125 b17 r_129 h125 n0 O126 A125 F125_process F125_branch f130 c129_0 (show n0 ≤ b125 by first | assumption | omega | decide)) hZ22 (hw _ (List.mem_of_getElem? (i := 57) rfl)) (hw _ (List.mem_of_getElem? (i := 48) rfl)) (by decide) (by decide)) (g := (mkF m 92 #[.val (.int x0), .val (.int x1), .val (.int x2), .val (.int x3), .val (.int x4), .val (.ref b1), .val (.ref b9), .val (.ref b17), .val (.int ((x1 &&& (2147483647 : Int32)) % (5 : Int32))), .val (.int ((x3 &&& (2147483647 : Int32)) % (5 : Int32))), .val (.int (0 : Int32)), .val (.int (1 : Int32)), .unset, .unset, .unset, .unset, .unset, .unset, .unset] [(.ref r_129), (.ref b17), (.ref b125), (.ref b125)])) rfl (by rw [hml]; rfl) (Steps.refl _) (a := b125) (argsL := [(.ref b17), (.ref r_129)]) (rest := [(.ref b125)]) (lenOf own_pd_11 rfl) rfl (by show 2 * 0 + _ ≤ _; exact Nat.le_of_eq rfl) (hb hby at_92) (fun _ _ => ⟨rfl, e129, (by decide : 8 + 4 ≤ _), (by decide : 78 + 60 ≤ _)⟩)
      dsimp only [Pt.U, Pt.locs, Pt.cells, Pt.slots] at X131 l131 y131 z131 st131 hQ131 hS131 gr131
      subst l131 y131 z131
      obtain ⟨h131, e131⟩ : ∃ z, T131.heap = z := ⟨_, rfl⟩
      rw [e131] at hQ131 hS131 gr131
      obtain ⟨Nc131, Kc131, rfl, c131_0, c131_1⟩ := hQ131
      obtain ⟨X131, hS131, hZ131, hown131⟩ := rebS (own := "com/example/breach_or_proof/breachorproof/analysis/PathStepEqualsPinLaw") hS22 (show _ ≤ T129.heap.size by rw [e129]; exact hk128) X131 hS131 gr131 hZ22 hown22
      have hk131 : h131.size ≤ h131.size := Nat.le_refl _
      have N131 := Fr.app N129 Nc131
      have O132 := O126.keep Kc131 (allS (show n0 ≤ b125 by omega) all0)
      have sz133 : h125.size ≤ h131.size := Kc131.1
      refine own_goS st131 ?_
      show own_Goes p e below (T131.setTop (mkF m 95 #[.val (.int x0), .val (.int x1), .val (.int x2), .val (.int x3), .val (.int x4), .val (.ref b1), .val (.ref b9), .val (.ref b17), .val (.int ((x1 &&& (2147483647 : Int32)) % (5 : Int32))), .val (.int ((x3 &&& (2147483647 : Int32)) % (5 : Int32))), .val (.int (0 : Int32)), .val (.int (1 : Int32)), .unset, .unset, .unset, .unset, .unset, .unset, .unset] [(.ref b125)])) _
      refine own_go (fun t_ k_ => XS.astore X131.here hx rfl (hb hby at_95) rfl rfl (l' := #[.val (.int x0), .val (.int x1), .val (.int x2), .val (.int x3), .val (.int x4), .val (.ref b1), .val (.ref b9), .val (.ref b17), .val (.int ((x1 &&& (2147483647 : Int32)) % (5 : Int32))), .val (.int ((x3 &&& (2147483647 : Int32)) % (5 : Int32))), .val (.int (0 : Int32)), .val (.int (1 : Int32)), .val (.ref b125), .unset, .unset, .unset, .unset, .unset, .unset]) rfl k_) ?_
      show own_Goes p e below (T131.setTop (mkF m 97 #[.val (.int x0), .val (.int x1), .val (.int x2), .val (.int x3), .val (.int x4), .val (.ref b1), .val (.ref b9), .val (.ref b17), .val (.int ((x1 &&& (2147483647 : Int32)) % (5 : Int32))), .val (.int ((x3 &&& (2147483647 : Int32)) % (5 : Int32))), .val (.int (0 : Int32)), .val (.int (1 : Int32)), .val (.ref b125), .unset, .unset, .unset, .unset, .unset, .unset] [])) _
      obtain ⟨T134, h134, X134, e134, E134, A134, D134, -, st134⟩ := newO X131 hx hZ131 hown131 (hw _ (List.mem_of_getElem? (i := 46) rfl)) (hw _ (List.mem_of_getElem? (i := 47) rfl)) (hw _ (List.mem_of_getElem? (i := 48) rfl)) e131 (g := (mkF m 97 #[.val (.int x0), .val (.int x1), .val (.int x2), .val (.int x3), .val (.int x4), .val (.ref b1), .val (.ref b9), .val (.ref b17), .val (.int ((x1 &&& (2147483647 : Int32)) % (5 : Int32))), .val (.int ((x3 &&& (2147483647 : Int32)) % (5 : Int32))), .val (.int (0 : Int32)), .val (.int (1 : Int32)), .val (.ref b125), .unset, .unset, .unset, .unset, .unset, .unset] [])) rfl (hb hby at_97) (by decide) (by decide)
      obtain ⟨b134, g134⟩ : ∃ z, z = h131.size := ⟨_, rfl⟩
      rw [← g134] at A134 D134 st134
      refine own_go st134 ?_
      have O135 := O132.ext E134
      have sz136 : h131.size ≤ h134.size := E134.1
      have hk137 := Nat.le_trans hk131 E134.1
      have l134 : b134 < h134.size := A134.lt
      have F134_process : Fld Z h134 b134 "com/example/breach_or_proof/breachorproof/analysis/PathStep" "process" "Lcom/example/breach_or_proof/breachorproof/Process;" .null := D134 (Or.inr (hw _ (List.mem_of_getElem? (i := 64) rfl))) (ty := (.object "com/example/breach_or_proof/breachorproof/Process")) (by decide)
      have F134_branch : Fld Z h134 b134 "com/example/breach_or_proof/breachorproof/analysis/PathStep" "branch" "Lcom/example/breach_or_proof/breachorproof/analysis/PathStep$Branch;" .null := D134 (Or.inr (hw _ (List.mem_of_getElem? (i := 69) rfl))) (ty := (.object "com/example/breach_or_proof/breachorproof/analysis/PathStep$Branch")) (by decide)
      show own_Goes p e below (T134.setTop (mkF m 100 #[.val (.int x0), .val (.int x1), .val (.int x2), .val (.int x3), .val (.int x4), .val (.ref b1), .val (.ref b9), .val (.ref b17), .val (.int ((x1 &&& (2147483647 : Int32)) % (5 : Int32))), .val (.int ((x3 &&& (2147483647 : Int32)) % (5 : Int32))), .val (.int (0 : Int32)), .val (.int (1 : Int32)), .val (.ref b125), .unset, .unset, .unset, .unset, .unset, .unset] [(.ref b134)])) _
      refine own_go (fun t_ k_ => XS.dup X134.here hx rfl (hb hby at_100) rfl rfl k_) ?_
      show own_Goes p e below (T134.setTop (mkF m 101 #[.val (.int x0), .val (.int x1), .val (.int x2), .val (.int x3), .val (.int x4), .val (.ref b1), .val (.ref b9), .val (.ref b17), .val (.int ((x1 &&& (2147483647 : Int32)) % (5 : Int32))), .val (.int ((x3 &&& (2147483647 : Int32)) % (5 : Int32))), .val (.int (0 : Int32)), .val (.int (1 : Int32)), .val (.ref b125), .unset, .unset, .unset, .unset, .unset, .unset] [(.ref b134), (.ref b134)])) _
      refine own_go (fun t_ k_ => XS.iload X134.here hx rfl (hb hby at_101) rfl k_) ?_
      show own_Goes p e below (T134.setTop (mkF m 103 #[.val (.int x0), .val (.int x1), .val (.int x2), .val (.int x3), .val (.int x4), .val (.ref b1), .val (.ref b9), .val (.ref b17), .val (.int ((x1 &&& (2147483647 : Int32)) % (5 : Int32))), .val (.int ((x3 &&& (2147483647 : Int32)) % (5 : Int32))), .val (.int (0 : Int32)), .val (.int (1 : Int32)), .val (.ref b125), .unset, .unset, .unset, .unset, .unset, .unset] [(.int (1 : Int32)), (.ref b134), (.ref b134)])) _
      refine own_go (fun t_ k_ => XS.ifNo X134.here hx rfl (hb hby at_103) rfl ((if0 _ _).trans (feq (show ¬ ((1 : Int32) = (0 : Int32)) from by decide)).1) k_) ?_
      show own_Goes p e below (T134.setTop (mkF m 106 #[.val (.int x0), .val (.int x1), .val (.int x2), .val (.int x3), .val (.int x4), .val (.ref b1), .val (.ref b9), .val (.ref b17), .val (.int ((x1 &&& (2147483647 : Int32)) % (5 : Int32))), .val (.int ((x3 &&& (2147483647 : Int32)) % (5 : Int32))), .val (.int (0 : Int32)), .val (.int (1 : Int32)), .val (.ref b125), .unset, .unset, .unset, .unset, .unset, .unset] [(.ref b134), (.ref b134)])) _
      refine own_go (fun t_ k_ => XS.aload X134.here hx rfl (hb hby at_106) rfl rfl k_) ?_
      show own_Goes p e below (T134.setTop (mkF m 108 #[.val (.int x0), .val (.int x1), .val (.int x2), .val (.int x3), .val (.int x4), .val (.ref b1), .val (.ref b9), .val (.ref b17), .val (.int ((x1 &&& (2147483647 : Int32)) % (5 : Int32))), .val (.int ((x3 &&& (2147483647 : Int32)) % (5 : Int32))), .val (.int (0 : Int32)), .val (.int (1 : Int32)), .val (.ref b125), .unset, .unset, .unset, .unset, .unset, .unset] [(.ref b9), (.ref b134), (.ref b134)])) _
      refine own_go (fun t_ k_ => XS.goto X134.here hx rfl (pc0 := 108) (pc' := 113) rfl (hb hby at_108) (by decide) (by decide) k_) ?_
      show own_Goes p e below (T134.setTop (mkF m 113 #[.val (.int x0), .val (.int x1), .val (.int x2), .val (.int x3), .val (.int x4), .val (.ref b1), .val (.ref b9), .val (.ref b17), .val (.int ((x1 &&& (2147483647 : Int32)) % (5 : Int32))), .val (.int ((x3 &&& (2147483647 : Int32)) % (5 : Int32))), .val (.int (0 : Int32)), .val (.int (1 : Int32)), .val (.ref b125), .unset, .unset, .unset, .unset, .unset, .unset] [(.ref b9), (.ref b134), (.ref b134)])) _
      refine own_go (fun t_ k_ => XS.iload X134.here hx rfl (hb hby at_113) rfl k_) ?_
      show own_Goes p e below (T134.setTop (mkF m 115 #[.val (.int x0), .val (.int x1), .val (.int x2), .val (.int x3), .val (.int x4), .val (.ref b1), .val (.ref b9), .val (.ref b17), .val (.int ((x1 &&& (2147483647 : Int32)) % (5 : Int32))), .val (.int ((x3 &&& (2147483647 : Int32)) % (5 : Int32))), .val (.int (0 : Int32)), .val (.int (1 : Int32)), .val (.ref b125), .unset, .unset, .unset, .unset, .unset, .unset] [(.int ((x3 &&& (2147483647 : Int32)) % (5 : Int32))), (.ref b9), (.ref b134), (.ref b134)])) _
      obtain ⟨_, _, ⟨T138, L138, k138, n138⟩, -, X138, ⟨Lc138, hQ138, l138, y138, z138⟩, st138⟩ := Jvm.LawKit.callS X134 hx (y := own_m10) hown131 (mvT hZ131 (hw _ (List.mem_of_getElem? (i := 49) rfl))) (mvT hZ131 (hw _ (List.mem_of_getElem? (i := 50) rfl))) (mvT hZ131 (hw _ (List.mem_of_getElem? (i := 43) rfl))) (mvT hZ131 (hw _ (List.mem_of_getElem? (i := 51) rfl))) (by decide) (backOf (W := 3) (own_branch l Z a0 hw [] ((x3 &&& (2147483647 : Int32)) % (5 : Int32)) h134 n0 O135 gw0 gw1 gw2 gw3 gw4 G (show 0 ≤ ((x3 &&& (2147483647 : Int32)) % (5 : Int32)).toInt ∧ ((x3 &&& (2147483647 : Int32)) % (5 : Int32)).toInt < 5 from (own_rng _))) hZ131 (hw _ (List.mem_of_getElem? (i := 51) rfl)) (hw _ (List.mem_of_getElem? (i := 43) rfl)) (by decide) (by decide)) (g := (mkF m 115 #[.val (.int x0), .val (.int x1), .val (.int x2), .val (.int x3), .val (.int x4), .val (.ref b1), .val (.ref b9), .val (.ref b17), .val (.int ((x1 &&& (2147483647 : Int32)) % (5 : Int32))), .val (.int ((x3 &&& (2147483647 : Int32)) % (5 : Int32))), .val (.int (0 : Int32)), .val (.int (1 : Int32)), .val (.ref b125), .unset, .unset, .unset, .unset, .unset, .unset] [(.int ((x3 &&& (2147483647 : Int32)) % (5 : Int32))), (.ref b9), (.ref b134), (.ref b134)])) rfl (by rw [hml]; rfl) (argsL := [(.int ((x3 &&& (2147483647 : Int32)) % (5 : Int32)))]) (rest := [(.ref b9), (.ref b134), (.ref b134)]) (lenOf own_pd_9 rfl) rfl (by show 2 * 0 + _ ≤ _; exact Nat.le_of_eq rfl) (hb hby at_115) (fun _ _ => ⟨rfl, e134, (by decide : 13 + 0 ≤ _), (by decide : 140 + 0 ≤ _)⟩)
      dsimp only [Pt.U, Pt.locs, Pt.cells, Pt.slots] at X138 l138 y138 z138 st138 hQ138
      subst l138 y138 z138
      obtain ⟨Nc138, e138, r_138, rfl, c138_0, c138_1, c138_2⟩ := hQ138
      rw [e138] at c138_0
      have N138 := Fr.app N131 Nc138
      have ltc138_0 : r_138 < h134.size := c138_0.lt
      refine own_go st138 ?_
      show own_Goes p e below (T138.setTop (mkF m 118 #[.val (.int x0), .val (.int x1), .val (.int x2), .val (.int x3), .val (.int x4), .val (.ref b1), .val (.ref b9), .val (.ref b17), .val (.int ((x1 &&& (2147483647 : Int32)) % (5 : Int32))), .val (.int ((x3 &&& (2147483647 : Int32)) % (5 : Int32))), .val (.int (0 : Int32)), .val (.int (1 : Int32)), .val (.ref b125), .unset, .unset, .unset, .unset, .unset, .unset] [(.ref r_138), (.ref b9), (.ref b134), (.ref b134)])) _
      have f139 := ((((((A9.keep Kc14).ext E17).keep Kc22).ext E125).keep Kc131).ext E134)
      obtain ⟨_, _, ⟨T140, L140, k140, n140⟩, -, X140, hS140, gr140, ⟨Lc140, hQ140, l140, y140, z140⟩, st140⟩ := X138.specialBackS hx (y := own_m12) rfl hown131 (mvT hZ131 (hw _ (List.mem_of_getElem? (i := 55) rfl))) (mvT hZ131 (hw _ (List.mem_of_getElem? (i := 56) rfl))) (mvT hZ131 (hw _ (List.mem_of_getElem? (i := 57) rfl))) (by decide) (backOfS (W := 1) (own_psInit l Z a0 hw [] b134 b9 r_138 h134 n0 O135 A134 F134_process F134_branch f139 c138_0 (show n0 ≤ b134 by first | assumption | omega | decide)) hZ131 (hw _ (List.mem_of_getElem? (i := 57) rfl)) (hw _ (List.mem_of_getElem? (i := 48) rfl)) (by decide) (by decide)) (g := (mkF m 118 #[.val (.int x0), .val (.int x1), .val (.int x2), .val (.int x3), .val (.int x4), .val (.ref b1), .val (.ref b9), .val (.ref b17), .val (.int ((x1 &&& (2147483647 : Int32)) % (5 : Int32))), .val (.int ((x3 &&& (2147483647 : Int32)) % (5 : Int32))), .val (.int (0 : Int32)), .val (.int (1 : Int32)), .val (.ref b125), .unset, .unset, .unset, .unset, .unset, .unset] [(.ref r_138), (.ref b9), (.ref b134), (.ref b134)])) rfl (by rw [hml]; rfl) (Steps.refl _) (a := b134) (argsL := [(.ref b9), (.ref r_138)]) (rest := [(.ref b134)]) (lenOf own_pd_11 rfl) rfl (by show 2 * 0 + _ ≤ _; exact Nat.le_of_eq rfl) (hb hby at_118) (fun _ _ => ⟨rfl, e138, (by decide : 13 + 4 ≤ _), (by decide : 140 + 60 ≤ _)⟩)
      dsimp only [Pt.U, Pt.locs, Pt.cells, Pt.slots] at X140 l140 y140 z140 st140 hQ140 hS140 gr140
      subst l140 y140 z140
      obtain ⟨h140, e140⟩ : ∃ z, T140.heap = z := ⟨_, rfl⟩
      rw [e140] at hQ140 hS140 gr140
      obtain ⟨Nc140, Kc140, rfl, c140_0, c140_1⟩ := hQ140
      obtain ⟨X140, hS140, hZ140, hown140⟩ := rebS (own := "com/example/breach_or_proof/breachorproof/analysis/PathStepEqualsPinLaw") hS131 (show _ ≤ T138.heap.size by rw [e138]; exact hk137) X140 hS140 gr140 hZ131 hown131
      have hk140 : h140.size ≤ h140.size := Nat.le_refl _
      have N140 := Fr.app N138 Nc140
      have O141 := O135.keep Kc140 (allS (show n0 ≤ b134 by omega) all0)
      have sz142 : h134.size ≤ h140.size := Kc140.1
      refine own_goS st140 ?_
      show own_Goes p e below (T140.setTop (mkF m 121 #[.val (.int x0), .val (.int x1), .val (.int x2), .val (.int x3), .val (.int x4), .val (.ref b1), .val (.ref b9), .val (.ref b17), .val (.int ((x1 &&& (2147483647 : Int32)) % (5 : Int32))), .val (.int ((x3 &&& (2147483647 : Int32)) % (5 : Int32))), .val (.int (0 : Int32)), .val (.int (1 : Int32)), .val (.ref b125), .unset, .unset, .unset, .unset, .unset, .unset] [(.ref b134)])) _
      refine own_go (fun t_ k_ => XS.astore X140.here hx rfl (hb hby at_121) rfl rfl (l' := #[.val (.int x0), .val (.int x1), .val (.int x2), .val (.int x3), .val (.int x4), .val (.ref b1), .val (.ref b9), .val (.ref b17), .val (.int ((x1 &&& (2147483647 : Int32)) % (5 : Int32))), .val (.int ((x3 &&& (2147483647 : Int32)) % (5 : Int32))), .val (.int (0 : Int32)), .val (.int (1 : Int32)), .val (.ref b125), .val (.ref b134), .unset, .unset, .unset, .unset, .unset]) rfl k_) ?_
      show own_Goes p e below (T140.setTop (mkF m 123 #[.val (.int x0), .val (.int x1), .val (.int x2), .val (.int x3), .val (.int x4), .val (.ref b1), .val (.ref b9), .val (.ref b17), .val (.int ((x1 &&& (2147483647 : Int32)) % (5 : Int32))), .val (.int ((x3 &&& (2147483647 : Int32)) % (5 : Int32))), .val (.int (0 : Int32)), .val (.int (1 : Int32)), .val (.ref b125), .val (.ref b134), .unset, .unset, .unset, .unset, .unset] [])) _
      refine own_go (fun t_ k_ => XS.iload X140.here hx rfl (hb hby at_123) rfl k_) ?_
      show own_Goes p e below (T140.setTop (mkF m 125 #[.val (.int x0), .val (.int x1), .val (.int x2), .val (.int x3), .val (.int x4), .val (.ref b1), .val (.ref b9), .val (.ref b17), .val (.int ((x1 &&& (2147483647 : Int32)) % (5 : Int32))), .val (.int ((x3 &&& (2147483647 : Int32)) % (5 : Int32))), .val (.int (0 : Int32)), .val (.int (1 : Int32)), .val (.ref b125), .val (.ref b134), .unset, .unset, .unset, .unset, .unset] [(.int x4)])) _
      refine own_go (fun t_ k_ => Jvm.Stand.ldcI X140 hx hown140 (mv hZ140 (hw _ (List.mem_of_getElem? (i := 45) rfl))) rfl (hb hby at_125) k_) ?_
      show own_Goes p e below (T140.setTop (mkF m 127 #[.val (.int x0), .val (.int x1), .val (.int x2), .val (.int x3), .val (.int x4), .val (.ref b1), .val (.ref b9), .val (.ref b17), .val (.int ((x1 &&& (2147483647 : Int32)) % (5 : Int32))), .val (.int ((x3 &&& (2147483647 : Int32)) % (5 : Int32))), .val (.int (0 : Int32)), .val (.int (1 : Int32)), .val (.ref b125), .val (.ref b134), .unset, .unset, .unset, .unset, .unset] [(.int (2147483647 : Int32)), (.int x4)])) _
      refine own_go (fun t_ k_ => XS.iand X140.here hx rfl (hb hby at_127) rfl k_) ?_
      show own_Goes p e below (T140.setTop (mkF m 128 #[.val (.int x0), .val (.int x1), .val (.int x2), .val (.int x3), .val (.int x4), .val (.ref b1), .val (.ref b9), .val (.ref b17), .val (.int ((x1 &&& (2147483647 : Int32)) % (5 : Int32))), .val (.int ((x3 &&& (2147483647 : Int32)) % (5 : Int32))), .val (.int (0 : Int32)), .val (.int (1 : Int32)), .val (.ref b125), .val (.ref b134), .unset, .unset, .unset, .unset, .unset] [(.int (x4 &&& (2147483647 : Int32)))])) _
      refine own_go (fun t_ k_ => XS.iconst X140.here hx rfl (hb hby at_128) k_) ?_
      show own_Goes p e below (T140.setTop (mkF m 129 #[.val (.int x0), .val (.int x1), .val (.int x2), .val (.int x3), .val (.int x4), .val (.ref b1), .val (.ref b9), .val (.ref b17), .val (.int ((x1 &&& (2147483647 : Int32)) % (5 : Int32))), .val (.int ((x3 &&& (2147483647 : Int32)) % (5 : Int32))), .val (.int (0 : Int32)), .val (.int (1 : Int32)), .val (.ref b125), .val (.ref b134), .unset, .unset, .unset, .unset, .unset] [(.int (3 : Int32)), (.int (x4 &&& (2147483647 : Int32)))])) _
      refine own_go (fun t_ k_ => iremM X140 hx rfl (hb hby at_129) rfl (by decide) k_) ?_
      show own_Goes p e below (T140.setTop (mkF m 130 #[.val (.int x0), .val (.int x1), .val (.int x2), .val (.int x3), .val (.int x4), .val (.ref b1), .val (.ref b9), .val (.ref b17), .val (.int ((x1 &&& (2147483647 : Int32)) % (5 : Int32))), .val (.int ((x3 &&& (2147483647 : Int32)) % (5 : Int32))), .val (.int (0 : Int32)), .val (.int (1 : Int32)), .val (.ref b125), .val (.ref b134), .unset, .unset, .unset, .unset, .unset] [(.int ((x4 &&& (2147483647 : Int32)) % (3 : Int32)))])) _
      refine own_go (fun t_ k_ => XS.istore X140.here hx rfl (hb hby at_130) rfl (l' := #[.val (.int x0), .val (.int x1), .val (.int x2), .val (.int x3), .val (.int x4), .val (.ref b1), .val (.ref b9), .val (.ref b17), .val (.int ((x1 &&& (2147483647 : Int32)) % (5 : Int32))), .val (.int ((x3 &&& (2147483647 : Int32)) % (5 : Int32))), .val (.int (0 : Int32)), .val (.int (1 : Int32)), .val (.ref b125), .val (.ref b134), .val (.int ((x4 &&& (2147483647 : Int32)) % (3 : Int32))), .unset, .unset, .unset, .unset]) rfl k_) ?_
      show own_Goes p e below (T140.setTop (mkF m 132 #[.val (.int x0), .val (.int x1), .val (.int x2), .val (.int x3), .val (.int x4), .val (.ref b1), .val (.ref b9), .val (.ref b17), .val (.int ((x1 &&& (2147483647 : Int32)) % (5 : Int32))), .val (.int ((x3 &&& (2147483647 : Int32)) % (5 : Int32))), .val (.int (0 : Int32)), .val (.int (1 : Int32)), .val (.ref b125), .val (.ref b134), .val (.int ((x4 &&& (2147483647 : Int32)) % (3 : Int32))), .unset, .unset, .unset, .unset] [])) _
      refine own_go (fun t_ k_ => XS.iload X140.here hx rfl (hb hby at_132) rfl k_) ?_
      show own_Goes p e below (T140.setTop (mkF m 134 #[.val (.int x0), .val (.int x1), .val (.int x2), .val (.int x3), .val (.int x4), .val (.ref b1), .val (.ref b9), .val (.ref b17), .val (.int ((x1 &&& (2147483647 : Int32)) % (5 : Int32))), .val (.int ((x3 &&& (2147483647 : Int32)) % (5 : Int32))), .val (.int (0 : Int32)), .val (.int (1 : Int32)), .val (.ref b125), .val (.ref b134), .val (.int ((x4 &&& (2147483647 : Int32)) % (3 : Int32))), .unset, .unset, .unset, .unset] [(.int ((x4 &&& (2147483647 : Int32)) % (3 : Int32)))])) _
      by_cases hc143 : ((x4 &&& (2147483647 : Int32)) % (3 : Int32)) = (0 : Int32)
      · refine own_go (fun t_ k_ => XS.ifNo X140.here hx rfl (hb hby at_134) rfl ((if0 _ _).trans (teq hc143).2) k_) ?_
        show own_Goes p e below (T140.setTop (mkF m 137 #[.val (.int x0), .val (.int x1), .val (.int x2), .val (.int x3), .val (.int x4), .val (.ref b1), .val (.ref b9), .val (.ref b17), .val (.int ((x1 &&& (2147483647 : Int32)) % (5 : Int32))), .val (.int ((x3 &&& (2147483647 : Int32)) % (5 : Int32))), .val (.int (0 : Int32)), .val (.int (1 : Int32)), .val (.ref b125), .val (.ref b134), .val (.int ((x4 &&& (2147483647 : Int32)) % (3 : Int32))), .unset, .unset, .unset, .unset] [])) _
        refine own_go (fun t_ k_ => XS.aload X140.here hx rfl (hb hby at_137) rfl rfl k_) ?_
        show own_Goes p e below (T140.setTop (mkF m 139 #[.val (.int x0), .val (.int x1), .val (.int x2), .val (.int x3), .val (.int x4), .val (.ref b1), .val (.ref b9), .val (.ref b17), .val (.int ((x1 &&& (2147483647 : Int32)) % (5 : Int32))), .val (.int ((x3 &&& (2147483647 : Int32)) % (5 : Int32))), .val (.int (0 : Int32)), .val (.int (1 : Int32)), .val (.ref b125), .val (.ref b134), .val (.int ((x4 &&& (2147483647 : Int32)) % (3 : Int32))), .unset, .unset, .unset, .unset] [(.ref b134)])) _
        refine own_go (fun t_ k_ => XS.astore X140.here hx rfl (hb hby at_139) rfl rfl (l' := #[.val (.int x0), .val (.int x1), .val (.int x2), .val (.int x3), .val (.int x4), .val (.ref b1), .val (.ref b9), .val (.ref b17), .val (.int ((x1 &&& (2147483647 : Int32)) % (5 : Int32))), .val (.int ((x3 &&& (2147483647 : Int32)) % (5 : Int32))), .val (.int (0 : Int32)), .val (.int (1 : Int32)), .val (.ref b125), .val (.ref b134), .val (.int ((x4 &&& (2147483647 : Int32)) % (3 : Int32))), .val (.ref b134), .unset, .unset, .unset]) rfl k_) ?_
        show own_Goes p e below (T140.setTop (mkF m 141 #[.val (.int x0), .val (.int x1), .val (.int x2), .val (.int x3), .val (.int x4), .val (.ref b1), .val (.ref b9), .val (.ref b17), .val (.int ((x1 &&& (2147483647 : Int32)) % (5 : Int32))), .val (.int ((x3 &&& (2147483647 : Int32)) % (5 : Int32))), .val (.int (0 : Int32)), .val (.int (1 : Int32)), .val (.ref b125), .val (.ref b134), .val (.int ((x4 &&& (2147483647 : Int32)) % (3 : Int32))), .val (.ref b134), .unset, .unset, .unset] [])) _
        refine own_go (fun t_ k_ => XS.goto X140.here hx rfl (pc0 := 141) (pc' := 170) rfl (hb hby at_141) (by decide) (by decide) k_) ?_
        show own_Goes p e below (T140.setTop (mkF m 170 #[.val (.int x0), .val (.int x1), .val (.int x2), .val (.int x3), .val (.int x4), .val (.ref b1), .val (.ref b9), .val (.ref b17), .val (.int ((x1 &&& (2147483647 : Int32)) % (5 : Int32))), .val (.int ((x3 &&& (2147483647 : Int32)) % (5 : Int32))), .val (.int (0 : Int32)), .val (.int (1 : Int32)), .val (.ref b125), .val (.ref b134), .val (.int ((x4 &&& (2147483647 : Int32)) % (3 : Int32))), .val (.ref b134), .unset, .unset, .unset] [])) _
        refine own_go (fun t_ k_ => XS.iload X140.here hx rfl (hb hby at_170) rfl k_) ?_
        show own_Goes p e below (T140.setTop (mkF m 172 #[.val (.int x0), .val (.int x1), .val (.int x2), .val (.int x3), .val (.int x4), .val (.ref b1), .val (.ref b9), .val (.ref b17), .val (.int ((x1 &&& (2147483647 : Int32)) % (5 : Int32))), .val (.int ((x3 &&& (2147483647 : Int32)) % (5 : Int32))), .val (.int (0 : Int32)), .val (.int (1 : Int32)), .val (.ref b125), .val (.ref b134), .val (.int ((x4 &&& (2147483647 : Int32)) % (3 : Int32))), .val (.ref b134), .unset, .unset, .unset] [(.int ((x4 &&& (2147483647 : Int32)) % (3 : Int32)))])) _
        refine own_go (fun t_ k_ => XS.ifNo X140.here hx rfl (hb hby at_172) rfl ((if0 _ _).trans (teq hc143).2) k_) ?_
        show own_Goes p e below (T140.setTop (mkF m 175 #[.val (.int x0), .val (.int x1), .val (.int x2), .val (.int x3), .val (.int x4), .val (.ref b1), .val (.ref b9), .val (.ref b17), .val (.int ((x1 &&& (2147483647 : Int32)) % (5 : Int32))), .val (.int ((x3 &&& (2147483647 : Int32)) % (5 : Int32))), .val (.int (0 : Int32)), .val (.int (1 : Int32)), .val (.ref b125), .val (.ref b134), .val (.int ((x4 &&& (2147483647 : Int32)) % (3 : Int32))), .val (.ref b134), .unset, .unset, .unset] [])) _
        refine own_go (fun t_ k_ => XS.iload X140.here hx rfl (hb hby at_175) rfl k_) ?_
        show own_Goes p e below (T140.setTop (mkF m 177 #[.val (.int x0), .val (.int x1), .val (.int x2), .val (.int x3), .val (.int x4), .val (.ref b1), .val (.ref b9), .val (.ref b17), .val (.int ((x1 &&& (2147483647 : Int32)) % (5 : Int32))), .val (.int ((x3 &&& (2147483647 : Int32)) % (5 : Int32))), .val (.int (0 : Int32)), .val (.int (1 : Int32)), .val (.ref b125), .val (.ref b134), .val (.int ((x4 &&& (2147483647 : Int32)) % (3 : Int32))), .val (.ref b134), .unset, .unset, .unset] [(.int (0 : Int32))])) _
        refine own_go (fun t_ k_ => XS.iload X140.here hx rfl (hb hby at_177) rfl k_) ?_
        show own_Goes p e below (T140.setTop (mkF m 179 #[.val (.int x0), .val (.int x1), .val (.int x2), .val (.int x3), .val (.int x4), .val (.ref b1), .val (.ref b9), .val (.ref b17), .val (.int ((x1 &&& (2147483647 : Int32)) % (5 : Int32))), .val (.int ((x3 &&& (2147483647 : Int32)) % (5 : Int32))), .val (.int (0 : Int32)), .val (.int (1 : Int32)), .val (.ref b125), .val (.ref b134), .val (.int ((x4 &&& (2147483647 : Int32)) % (3 : Int32))), .val (.ref b134), .unset, .unset, .unset] [(.int (1 : Int32)), (.int (0 : Int32))])) _
        refine own_go (fun t_ k_ => XS.icmpYes X140.here hx rfl (pc0 := 179) (pc' := 193) rfl (hb hby at_179) rfl (feq (show ¬ ((0 : Int32) = (1 : Int32)) from by decide)).2 (by decide) (by decide) k_) ?_
        show own_Goes p e below (T140.setTop (mkF m 193 #[.val (.int x0), .val (.int x1), .val (.int x2), .val (.int x3), .val (.int x4), .val (.ref b1), .val (.ref b9), .val (.ref b17), .val (.int ((x1 &&& (2147483647 : Int32)) % (5 : Int32))), .val (.int ((x3 &&& (2147483647 : Int32)) % (5 : Int32))), .val (.int (0 : Int32)), .val (.int (1 : Int32)), .val (.ref b125), .val (.ref b134), .val (.int ((x4 &&& (2147483647 : Int32)) % (3 : Int32))), .val (.ref b134), .unset, .unset, .unset] [])) _
        refine own_go (fun t_ k_ => XS.iconst X140.here hx rfl (hb hby at_193) k_) ?_
        show own_Goes p e below (T140.setTop (mkF m 194 #[.val (.int x0), .val (.int x1), .val (.int x2), .val (.int x3), .val (.int x4), .val (.ref b1), .val (.ref b9), .val (.ref b17), .val (.int ((x1 &&& (2147483647 : Int32)) % (5 : Int32))), .val (.int ((x3 &&& (2147483647 : Int32)) % (5 : Int32))), .val (.int (0 : Int32)), .val (.int (1 : Int32)), .val (.ref b125), .val (.ref b134), .val (.int ((x4 &&& (2147483647 : Int32)) % (3 : Int32))), .val (.ref b134), .unset, .unset, .unset] [(.int (0 : Int32))])) _
        refine own_go (fun t_ k_ => XS.istore X140.here hx rfl (hb hby at_194) rfl (l' := #[.val (.int x0), .val (.int x1), .val (.int x2), .val (.int x3), .val (.int x4), .val (.ref b1), .val (.ref b9), .val (.ref b17), .val (.int ((x1 &&& (2147483647 : Int32)) % (5 : Int32))), .val (.int ((x3 &&& (2147483647 : Int32)) % (5 : Int32))), .val (.int (0 : Int32)), .val (.int (1 : Int32)), .val (.ref b125), .val (.ref b134), .val (.int ((x4 &&& (2147483647 : Int32)) % (3 : Int32))), .val (.ref b134), .val (.int (0 : Int32)), .unset, .unset]) rfl k_) ?_
        show own_Goes p e below (T140.setTop (mkF m 196 #[.val (.int x0), .val (.int x1), .val (.int x2), .val (.int x3), .val (.int x4), .val (.ref b1), .val (.ref b9), .val (.ref b17), .val (.int ((x1 &&& (2147483647 : Int32)) % (5 : Int32))), .val (.int ((x3 &&& (2147483647 : Int32)) % (5 : Int32))), .val (.int (0 : Int32)), .val (.int (1 : Int32)), .val (.ref b125), .val (.ref b134), .val (.int ((x4 &&& (2147483647 : Int32)) % (3 : Int32))), .val (.ref b134), .val (.int (0 : Int32)), .unset, .unset] [])) _
        refine own_go (fun t_ k_ => XS.aload X140.here hx rfl (hb hby at_196) rfl rfl k_) ?_
        show own_Goes p e below (T140.setTop (mkF m 198 #[.val (.int x0), .val (.int x1), .val (.int x2), .val (.int x3), .val (.int x4), .val (.ref b1), .val (.ref b9), .val (.ref b17), .val (.int ((x1 &&& (2147483647 : Int32)) % (5 : Int32))), .val (.int ((x3 &&& (2147483647 : Int32)) % (5 : Int32))), .val (.int (0 : Int32)), .val (.int (1 : Int32)), .val (.ref b125), .val (.ref b134), .val (.int ((x4 &&& (2147483647 : Int32)) % (3 : Int32))), .val (.ref b134), .val (.int (0 : Int32)), .unset, .unset] [(.ref b125)])) _
        refine own_go (fun t_ k_ => XS.aload X140.here hx rfl (hb hby at_198) rfl rfl k_) ?_
        show own_Goes p e below (T140.setTop (mkF m 200 #[.val (.int x0), .val (.int x1), .val (.int x2), .val (.int x3), .val (.int x4), .val (.ref b1), .val (.ref b9), .val (.ref b17), .val (.int ((x1 &&& (2147483647 : Int32)) % (5 : Int32))), .val (.int ((x3 &&& (2147483647 : Int32)) % (5 : Int32))), .val (.int (0 : Int32)), .val (.int (1 : Int32)), .val (.ref b125), .val (.ref b134), .val (.int ((x4 &&& (2147483647 : Int32)) % (3 : Int32))), .val (.ref b134), .val (.int (0 : Int32)), .unset, .unset] [(.ref b134), (.ref b125)])) _
        have f144 := (A134.keep Kc140)
        have f145 := ((c131_0.ext E134).keep Kc140 (ninS (own_ne (a := b125) (b := b134) (by omega)) nin0))
        have f146 := ((c131_1.ext E134).keep Kc140 (ninS (own_ne (a := b125) (b := b134) (by omega)) nin0))
        have f147 := (((A125.keep Kc131).ext E134).keep Kc140)
        obtain ⟨cqiv148, kqiv148, qiv148a, qiv148b, qiv148c⟩ := isOf hZ140 e140 f147
        obtain ⟨_, _, ⟨T149, L149, k149, n149⟩, -, X149, ⟨Lc149, hQ149, l149, y149, z149⟩, st149⟩ := X140.virtualBack hx (y := own_m14) (z := own_m14) hown140 (mvT hZ140 (hw _ (List.mem_of_getElem? (i := 72) rfl))) (mvT hZ140 (hw _ (List.mem_of_getElem? (i := 73) rfl))) (notFace_of_selects (args := #[]) (mvT hZ140 (hw _ (List.mem_of_getElem? (i := 75) rfl)))) (mvT hZ140 (hw _ (List.mem_of_getElem? (i := 75) rfl))) (mvT hZ140 (hw _ (List.mem_of_getElem? (i := 74) rfl))) (by decide) (backOf (W := 0) (own_eqF l Z a0 hw [] b125 b134 b17 b9 r_129 r_138 h140 n0 O141 f144 f145 c140_0 f146 c140_1 (show ¬ (b17 = b9 ∧ r_129 = r_138) from (fun q => absurd q.1 (by omega)))) hZ140 (hw _ (List.mem_of_getElem? (i := 76) rfl)) (hw _ (List.mem_of_getElem? (i := 48) rfl)) (by decide) (by decide)) qiv148a qiv148c (g := (mkF m 200 #[.val (.int x0), .val (.int x1), .val (.int x2), .val (.int x3), .val (.int x4), .val (.ref b1), .val (.ref b9), .val (.ref b17), .val (.int ((x1 &&& (2147483647 : Int32)) % (5 : Int32))), .val (.int ((x3 &&& (2147483647 : Int32)) % (5 : Int32))), .val (.int (0 : Int32)), .val (.int (1 : Int32)), .val (.ref b125), .val (.ref b134), .val (.int ((x4 &&& (2147483647 : Int32)) % (3 : Int32))), .val (.ref b134), .val (.int (0 : Int32)), .unset, .unset] [(.ref b134), (.ref b125)])) rfl (by rw [hml]; rfl) (Steps.refl _) (argsL := [(.ref b134)]) (rest := []) (lenOf own_pd_13 rfl) rfl (by show 2 * 0 + _ ≤ _; exact Nat.le_of_eq rfl) (hb hby at_200) (fun _ _ => ⟨rfl, e140, (by decide : 17 + 0 ≤ _), (by decide : 200 + 0 ≤ _)⟩)
        dsimp only [Pt.U, Pt.locs, Pt.cells, Pt.slots] at X149 l149 y149 z149 st149 hQ149
        subst l149 y149 z149
        obtain ⟨Nc149, e149, rfl⟩ := hQ149
        have N149 := Fr.app N140 Nc149
        refine own_goS st149 ?_
        show own_Goes p e below (T149.setTop (mkF m 203 #[.val (.int x0), .val (.int x1), .val (.int x2), .val (.int x3), .val (.int x4), .val (.ref b1), .val (.ref b9), .val (.ref b17), .val (.int ((x1 &&& (2147483647 : Int32)) % (5 : Int32))), .val (.int ((x3 &&& (2147483647 : Int32)) % (5 : Int32))), .val (.int (0 : Int32)), .val (.int (1 : Int32)), .val (.ref b125), .val (.ref b134), .val (.int ((x4 &&& (2147483647 : Int32)) % (3 : Int32))), .val (.ref b134), .val (.int (0 : Int32)), .unset, .unset] [(.int (0 : Int32))])) _
        refine own_go (fun t_ k_ => XS.istore X149.here hx rfl (hb hby at_203) rfl (l' := #[.val (.int x0), .val (.int x1), .val (.int x2), .val (.int x3), .val (.int x4), .val (.ref b1), .val (.ref b9), .val (.ref b17), .val (.int ((x1 &&& (2147483647 : Int32)) % (5 : Int32))), .val (.int ((x3 &&& (2147483647 : Int32)) % (5 : Int32))), .val (.int (0 : Int32)), .val (.int (1 : Int32)), .val (.ref b125), .val (.ref b134), .val (.int ((x4 &&& (2147483647 : Int32)) % (3 : Int32))), .val (.ref b134), .val (.int (0 : Int32)), .val (.int (0 : Int32)), .unset]) rfl k_) ?_
        show own_Goes p e below (T149.setTop (mkF m 205 #[.val (.int x0), .val (.int x1), .val (.int x2), .val (.int x3), .val (.int x4), .val (.ref b1), .val (.ref b9), .val (.ref b17), .val (.int ((x1 &&& (2147483647 : Int32)) % (5 : Int32))), .val (.int ((x3 &&& (2147483647 : Int32)) % (5 : Int32))), .val (.int (0 : Int32)), .val (.int (1 : Int32)), .val (.ref b125), .val (.ref b134), .val (.int ((x4 &&& (2147483647 : Int32)) % (3 : Int32))), .val (.ref b134), .val (.int (0 : Int32)), .val (.int (0 : Int32)), .unset] [])) _
        refine own_go (fun t_ k_ => XS.aload X149.here hx rfl (hb hby at_205) rfl rfl k_) ?_
        show own_Goes p e below (T149.setTop (mkF m 207 #[.val (.int x0), .val (.int x1), .val (.int x2), .val (.int x3), .val (.int x4), .val (.ref b1), .val (.ref b9), .val (.ref b17), .val (.int ((x1 &&& (2147483647 : Int32)) % (5 : Int32))), .val (.int ((x3 &&& (2147483647 : Int32)) % (5 : Int32))), .val (.int (0 : Int32)), .val (.int (1 : Int32)), .val (.ref b125), .val (.ref b134), .val (.int ((x4 &&& (2147483647 : Int32)) % (3 : Int32))), .val (.ref b134), .val (.int (0 : Int32)), .val (.int (0 : Int32)), .unset] [(.ref b125)])) _
        refine own_go (fun t_ k_ => XS.aload X149.here hx rfl (hb hby at_207) rfl rfl k_) ?_
        show own_Goes p e below (T149.setTop (mkF m 209 #[.val (.int x0), .val (.int x1), .val (.int x2), .val (.int x3), .val (.int x4), .val (.ref b1), .val (.ref b9), .val (.ref b17), .val (.int ((x1 &&& (2147483647 : Int32)) % (5 : Int32))), .val (.int ((x3 &&& (2147483647 : Int32)) % (5 : Int32))), .val (.int (0 : Int32)), .val (.int (1 : Int32)), .val (.ref b125), .val (.ref b134), .val (.int ((x4 &&& (2147483647 : Int32)) % (3 : Int32))), .val (.ref b134), .val (.int (0 : Int32)), .val (.int (0 : Int32)), .unset] [(.ref b125), (.ref b125)])) _
        obtain ⟨cqiv150, kqiv150, qiv150a, qiv150b, qiv150c⟩ := isOf hZ140 e149 f147
        obtain ⟨_, _, ⟨T151, L151, k151, n151⟩, -, X151, ⟨Lc151, hQ151, l151, y151, z151⟩, st151⟩ := X149.virtualBack hx (y := own_m14) (z := own_m14) hown140 (mvT hZ140 (hw _ (List.mem_of_getElem? (i := 72) rfl))) (mvT hZ140 (hw _ (List.mem_of_getElem? (i := 73) rfl))) (notFace_of_selects (args := #[]) (mvT hZ140 (hw _ (List.mem_of_getElem? (i := 75) rfl)))) (mvT hZ140 (hw _ (List.mem_of_getElem? (i := 75) rfl))) (mvT hZ140 (hw _ (List.mem_of_getElem? (i := 74) rfl))) (by decide) (backOf (W := 0) (own_eqT l Z a0 hw [] b125 b125 b17 b17 r_129 r_129 h140 n0 O141 f147 f145 f145 f146 f146 (show b17 = b17 from rfl) (show r_129 = r_129 from rfl)) hZ140 (hw _ (List.mem_of_getElem? (i := 76) rfl)) (hw _ (List.mem_of_getElem? (i := 48) rfl)) (by decide) (by decide)) qiv150a qiv150c (g := (mkF m 209 #[.val (.int x0), .val (.int x1), .val (.int x2), .val (.int x3), .val (.int x4), .val (.ref b1), .val (.ref b9), .val (.ref b17), .val (.int ((x1 &&& (2147483647 : Int32)) % (5 : Int32))), .val (.int ((x3 &&& (2147483647 : Int32)) % (5 : Int32))), .val (.int (0 : Int32)), .val (.int (1 : Int32)), .val (.ref b125), .val (.ref b134), .val (.int ((x4 &&& (2147483647 : Int32)) % (3 : Int32))), .val (.ref b134), .val (.int (0 : Int32)), .val (.int (0 : Int32)), .unset] [(.ref b125), (.ref b125)])) rfl (by rw [hml]; rfl) (Steps.refl _) (argsL := [(.ref b125)]) (rest := []) (lenOf own_pd_13 rfl) rfl (by show 2 * 0 + _ ≤ _; exact Nat.le_of_eq rfl) (hb hby at_209) (fun _ _ => ⟨rfl, e149, (by decide : 17 + 0 ≤ _), (by decide : 200 + 0 ≤ _)⟩)
        dsimp only [Pt.U, Pt.locs, Pt.cells, Pt.slots] at X151 l151 y151 z151 st151 hQ151
        subst l151 y151 z151
        obtain ⟨Nc151, e151, rfl⟩ := hQ151
        have N151 := Fr.app N149 Nc151
        refine own_goS st151 ?_
        show own_Goes p e below (T151.setTop (mkF m 212 #[.val (.int x0), .val (.int x1), .val (.int x2), .val (.int x3), .val (.int x4), .val (.ref b1), .val (.ref b9), .val (.ref b17), .val (.int ((x1 &&& (2147483647 : Int32)) % (5 : Int32))), .val (.int ((x3 &&& (2147483647 : Int32)) % (5 : Int32))), .val (.int (0 : Int32)), .val (.int (1 : Int32)), .val (.ref b125), .val (.ref b134), .val (.int ((x4 &&& (2147483647 : Int32)) % (3 : Int32))), .val (.ref b134), .val (.int (0 : Int32)), .val (.int (0 : Int32)), .unset] [(.int (1 : Int32))])) _
        refine own_go (fun t_ k_ => XS.istore X151.here hx rfl (hb hby at_212) rfl (l' := #[.val (.int x0), .val (.int x1), .val (.int x2), .val (.int x3), .val (.int x4), .val (.ref b1), .val (.ref b9), .val (.ref b17), .val (.int ((x1 &&& (2147483647 : Int32)) % (5 : Int32))), .val (.int ((x3 &&& (2147483647 : Int32)) % (5 : Int32))), .val (.int (0 : Int32)), .val (.int (1 : Int32)), .val (.ref b125), .val (.ref b134), .val (.int ((x4 &&& (2147483647 : Int32)) % (3 : Int32))), .val (.ref b134), .val (.int (0 : Int32)), .val (.int (0 : Int32)), .val (.int (1 : Int32))]) rfl k_) ?_
        show own_Goes p e below (T151.setTop (mkF m 214 #[.val (.int x0), .val (.int x1), .val (.int x2), .val (.int x3), .val (.int x4), .val (.ref b1), .val (.ref b9), .val (.ref b17), .val (.int ((x1 &&& (2147483647 : Int32)) % (5 : Int32))), .val (.int ((x3 &&& (2147483647 : Int32)) % (5 : Int32))), .val (.int (0 : Int32)), .val (.int (1 : Int32)), .val (.ref b125), .val (.ref b134), .val (.int ((x4 &&& (2147483647 : Int32)) % (3 : Int32))), .val (.ref b134), .val (.int (0 : Int32)), .val (.int (0 : Int32)), .val (.int (1 : Int32))] [])) _
        refine own_go (fun t_ k_ => XS.iload X151.here hx rfl (hb hby at_214) rfl k_) ?_
        show own_Goes p e below (T151.setTop (mkF m 216 #[.val (.int x0), .val (.int x1), .val (.int x2), .val (.int x3), .val (.int x4), .val (.ref b1), .val (.ref b9), .val (.ref b17), .val (.int ((x1 &&& (2147483647 : Int32)) % (5 : Int32))), .val (.int ((x3 &&& (2147483647 : Int32)) % (5 : Int32))), .val (.int (0 : Int32)), .val (.int (1 : Int32)), .val (.ref b125), .val (.ref b134), .val (.int ((x4 &&& (2147483647 : Int32)) % (3 : Int32))), .val (.ref b134), .val (.int (0 : Int32)), .val (.int (0 : Int32)), .val (.int (1 : Int32))] [(.int (0 : Int32))])) _
        refine own_go (fun t_ k_ => XS.iload X151.here hx rfl (hb hby at_216) rfl k_) ?_
        show own_Goes p e below (T151.setTop (mkF m 218 #[.val (.int x0), .val (.int x1), .val (.int x2), .val (.int x3), .val (.int x4), .val (.ref b1), .val (.ref b9), .val (.ref b17), .val (.int ((x1 &&& (2147483647 : Int32)) % (5 : Int32))), .val (.int ((x3 &&& (2147483647 : Int32)) % (5 : Int32))), .val (.int (0 : Int32)), .val (.int (1 : Int32)), .val (.ref b125), .val (.ref b134), .val (.int ((x4 &&& (2147483647 : Int32)) % (3 : Int32))), .val (.ref b134), .val (.int (0 : Int32)), .val (.int (0 : Int32)), .val (.int (1 : Int32))] [(.int (0 : Int32)), (.int (0 : Int32))])) _
        refine own_go (fun t_ k_ => XS.icmpNo X151.here hx rfl (hb hby at_218) rfl (teq (show ((0 : Int32) = (0 : Int32)) from by decide)).2 k_) ?_
        show own_Goes p e below (T151.setTop (mkF m 221 #[.val (.int x0), .val (.int x1), .val (.int x2), .val (.int x3), .val (.int x4), .val (.ref b1), .val (.ref b9), .val (.ref b17), .val (.int ((x1 &&& (2147483647 : Int32)) % (5 : Int32))), .val (.int ((x3 &&& (2147483647 : Int32)) % (5 : Int32))), .val (.int (0 : Int32)), .val (.int (1 : Int32)), .val (.ref b125), .val (.ref b134), .val (.int ((x4 &&& (2147483647 : Int32)) % (3 : Int32))), .val (.ref b134), .val (.int (0 : Int32)), .val (.int (0 : Int32)), .val (.int (1 : Int32))] [])) _
        refine own_go (fun t_ k_ => XS.iload X151.here hx rfl (hb hby at_221) rfl k_) ?_
        show own_Goes p e below (T151.setTop (mkF m 223 #[.val (.int x0), .val (.int x1), .val (.int x2), .val (.int x3), .val (.int x4), .val (.ref b1), .val (.ref b9), .val (.ref b17), .val (.int ((x1 &&& (2147483647 : Int32)) % (5 : Int32))), .val (.int ((x3 &&& (2147483647 : Int32)) % (5 : Int32))), .val (.int (0 : Int32)), .val (.int (1 : Int32)), .val (.ref b125), .val (.ref b134), .val (.int ((x4 &&& (2147483647 : Int32)) % (3 : Int32))), .val (.ref b134), .val (.int (0 : Int32)), .val (.int (0 : Int32)), .val (.int (1 : Int32))] [(.int (1 : Int32))])) _
        refine own_go (fun t_ k_ => XS.ifNo X151.here hx rfl (hb hby at_223) rfl ((if0 _ _).trans (feq (show ¬ ((1 : Int32) = (0 : Int32)) from by decide)).1) k_) ?_
        show own_Goes p e below (T151.setTop (mkF m 226 #[.val (.int x0), .val (.int x1), .val (.int x2), .val (.int x3), .val (.int x4), .val (.ref b1), .val (.ref b9), .val (.ref b17), .val (.int ((x1 &&& (2147483647 : Int32)) % (5 : Int32))), .val (.int ((x3 &&& (2147483647 : Int32)) % (5 : Int32))), .val (.int (0 : Int32)), .val (.int (1 : Int32)), .val (.ref b125), .val (.ref b134), .val (.int ((x4 &&& (2147483647 : Int32)) % (3 : Int32))), .val (.ref b134), .val (.int (0 : Int32)), .val (.int (0 : Int32)), .val (.int (1 : Int32))] [])) _
        refine own_go (fun t_ k_ => XS.iconst X151.here hx rfl (hb hby at_226) k_) ?_
        show own_Goes p e below (T151.setTop (mkF m 227 #[.val (.int x0), .val (.int x1), .val (.int x2), .val (.int x3), .val (.int x4), .val (.ref b1), .val (.ref b9), .val (.ref b17), .val (.int ((x1 &&& (2147483647 : Int32)) % (5 : Int32))), .val (.int ((x3 &&& (2147483647 : Int32)) % (5 : Int32))), .val (.int (0 : Int32)), .val (.int (1 : Int32)), .val (.ref b125), .val (.ref b134), .val (.int ((x4 &&& (2147483647 : Int32)) % (3 : Int32))), .val (.ref b134), .val (.int (0 : Int32)), .val (.int (0 : Int32)), .val (.int (1 : Int32))] [(.int (1 : Int32))])) _
        refine own_go (fun t_ k_ => XS.goto X151.here hx rfl (pc0 := 227) (pc' := 231) rfl (hb hby at_227) (by decide) (by decide) k_) ?_
        show own_Goes p e below (T151.setTop (mkF m 231 #[.val (.int x0), .val (.int x1), .val (.int x2), .val (.int x3), .val (.int x4), .val (.ref b1), .val (.ref b9), .val (.ref b17), .val (.int ((x1 &&& (2147483647 : Int32)) % (5 : Int32))), .val (.int ((x3 &&& (2147483647 : Int32)) % (5 : Int32))), .val (.int (0 : Int32)), .val (.int (1 : Int32)), .val (.ref b125), .val (.ref b134), .val (.int ((x4 &&& (2147483647 : Int32)) % (3 : Int32))), .val (.ref b134), .val (.int (0 : Int32)), .val (.int (0 : Int32)), .val (.int (1 : Int32))] [(.int (1 : Int32))])) _
        refine own_endW X151 hS140 (show _ ≤ T151.heap.size by rw [e151]; exact hk140) (v := (some (.int (1 : Int32)))) (fun h => by rw [hret] at h; cases h) hlk (by decide) (by decide) ?_ (fun fs hr => retOut X151 hx hret rfl (Or.inl ⟨rfl, Or.inr (Or.inl rfl), _, rfl⟩) (hb hby at_231) hr)
        show Q_rm0 Z x0 x1 x2 x3 x4 gw0 gw1 gw2 gw3 gw4 h0 n0 _ T151.heap _
        rw [e151]
        exact ⟨N151, trivial, rfl⟩
      · refine own_go (fun t_ k_ => XS.ifYes X140.here hx rfl (pc0 := 134) (pc' := 144) rfl (hb hby at_134) rfl ((if0 _ _).trans (feq hc143).2) (by decide) (by decide) k_) ?_
        show own_Goes p e below (T140.setTop (mkF m 144 #[.val (.int x0), .val (.int x1), .val (.int x2), .val (.int x3), .val (.int x4), .val (.ref b1), .val (.ref b9), .val (.ref b17), .val (.int ((x1 &&& (2147483647 : Int32)) % (5 : Int32))), .val (.int ((x3 &&& (2147483647 : Int32)) % (5 : Int32))), .val (.int (0 : Int32)), .val (.int (1 : Int32)), .val (.ref b125), .val (.ref b134), .val (.int ((x4 &&& (2147483647 : Int32)) % (3 : Int32))), .unset, .unset, .unset, .unset] [])) _
        refine own_go (fun t_ k_ => XS.iload X140.here hx rfl (hb hby at_144) rfl k_) ?_
        show own_Goes p e below (T140.setTop (mkF m 146 #[.val (.int x0), .val (.int x1), .val (.int x2), .val (.int x3), .val (.int x4), .val (.ref b1), .val (.ref b9), .val (.ref b17), .val (.int ((x1 &&& (2147483647 : Int32)) % (5 : Int32))), .val (.int ((x3 &&& (2147483647 : Int32)) % (5 : Int32))), .val (.int (0 : Int32)), .val (.int (1 : Int32)), .val (.ref b125), .val (.ref b134), .val (.int ((x4 &&& (2147483647 : Int32)) % (3 : Int32))), .unset, .unset, .unset, .unset] [(.int ((x4 &&& (2147483647 : Int32)) % (3 : Int32)))])) _
        refine own_go (fun t_ k_ => XS.iconst X140.here hx rfl (hb hby at_146) k_) ?_
        show own_Goes p e below (T140.setTop (mkF m 147 #[.val (.int x0), .val (.int x1), .val (.int x2), .val (.int x3), .val (.int x4), .val (.ref b1), .val (.ref b9), .val (.ref b17), .val (.int ((x1 &&& (2147483647 : Int32)) % (5 : Int32))), .val (.int ((x3 &&& (2147483647 : Int32)) % (5 : Int32))), .val (.int (0 : Int32)), .val (.int (1 : Int32)), .val (.ref b125), .val (.ref b134), .val (.int ((x4 &&& (2147483647 : Int32)) % (3 : Int32))), .unset, .unset, .unset, .unset] [(.int (1 : Int32)), (.int ((x4 &&& (2147483647 : Int32)) % (3 : Int32)))])) _
        by_cases hc152 : ((x4 &&& (2147483647 : Int32)) % (3 : Int32)) = (1 : Int32)
        · refine own_go (fun t_ k_ => XS.icmpNo X140.here hx rfl (hb hby at_147) rfl (teq hc152).2 k_) ?_
          show own_Goes p e below (T140.setTop (mkF m 150 #[.val (.int x0), .val (.int x1), .val (.int x2), .val (.int x3), .val (.int x4), .val (.ref b1), .val (.ref b9), .val (.ref b17), .val (.int ((x1 &&& (2147483647 : Int32)) % (5 : Int32))), .val (.int ((x3 &&& (2147483647 : Int32)) % (5 : Int32))), .val (.int (0 : Int32)), .val (.int (1 : Int32)), .val (.ref b125), .val (.ref b134), .val (.int ((x4 &&& (2147483647 : Int32)) % (3 : Int32))), .unset, .unset, .unset, .unset] [])) _
          refine own_go (fun t_ k_ => XS.aconstNull X140.here hx rfl (hb hby at_150) k_) ?_
          show own_Goes p e below (T140.setTop (mkF m 151 #[.val (.int x0), .val (.int x1), .val (.int x2), .val (.int x3), .val (.int x4), .val (.ref b1), .val (.ref b9), .val (.ref b17), .val (.int ((x1 &&& (2147483647 : Int32)) % (5 : Int32))), .val (.int ((x3 &&& (2147483647 : Int32)) % (5 : Int32))), .val (.int (0 : Int32)), .val (.int (1 : Int32)), .val (.ref b125), .val (.ref b134), .val (.int ((x4 &&& (2147483647 : Int32)) % (3 : Int32))), .unset, .unset, .unset, .unset] [.null])) _
          refine own_go (fun t_ k_ => XS.astore X140.here hx rfl (hb hby at_151) rfl rfl (l' := #[.val (.int x0), .val (.int x1), .val (.int x2), .val (.int x3), .val (.int x4), .val (.ref b1), .val (.ref b9), .val (.ref b17), .val (.int ((x1 &&& (2147483647 : Int32)) % (5 : Int32))), .val (.int ((x3 &&& (2147483647 : Int32)) % (5 : Int32))), .val (.int (0 : Int32)), .val (.int (1 : Int32)), .val (.ref b125), .val (.ref b134), .val (.int ((x4 &&& (2147483647 : Int32)) % (3 : Int32))), .val .null, .unset, .unset, .unset]) rfl k_) ?_
          show own_Goes p e below (T140.setTop (mkF m 153 #[.val (.int x0), .val (.int x1), .val (.int x2), .val (.int x3), .val (.int x4), .val (.ref b1), .val (.ref b9), .val (.ref b17), .val (.int ((x1 &&& (2147483647 : Int32)) % (5 : Int32))), .val (.int ((x3 &&& (2147483647 : Int32)) % (5 : Int32))), .val (.int (0 : Int32)), .val (.int (1 : Int32)), .val (.ref b125), .val (.ref b134), .val (.int ((x4 &&& (2147483647 : Int32)) % (3 : Int32))), .val .null, .unset, .unset, .unset] [])) _
          refine own_go (fun t_ k_ => XS.goto X140.here hx rfl (pc0 := 153) (pc' := 170) rfl (hb hby at_153) (by decide) (by decide) k_) ?_
          show own_Goes p e below (T140.setTop (mkF m 170 #[.val (.int x0), .val (.int x1), .val (.int x2), .val (.int x3), .val (.int x4), .val (.ref b1), .val (.ref b9), .val (.ref b17), .val (.int ((x1 &&& (2147483647 : Int32)) % (5 : Int32))), .val (.int ((x3 &&& (2147483647 : Int32)) % (5 : Int32))), .val (.int (0 : Int32)), .val (.int (1 : Int32)), .val (.ref b125), .val (.ref b134), .val (.int ((x4 &&& (2147483647 : Int32)) % (3 : Int32))), .val .null, .unset, .unset, .unset] [])) _
          refine own_go (fun t_ k_ => XS.iload X140.here hx rfl (hb hby at_170) rfl k_) ?_
          show own_Goes p e below (T140.setTop (mkF m 172 #[.val (.int x0), .val (.int x1), .val (.int x2), .val (.int x3), .val (.int x4), .val (.ref b1), .val (.ref b9), .val (.ref b17), .val (.int ((x1 &&& (2147483647 : Int32)) % (5 : Int32))), .val (.int ((x3 &&& (2147483647 : Int32)) % (5 : Int32))), .val (.int (0 : Int32)), .val (.int (1 : Int32)), .val (.ref b125), .val (.ref b134), .val (.int ((x4 &&& (2147483647 : Int32)) % (3 : Int32))), .val .null, .unset, .unset, .unset] [(.int ((x4 &&& (2147483647 : Int32)) % (3 : Int32)))])) _
          refine own_go (fun t_ k_ => XS.ifYes X140.here hx rfl (pc0 := 172) (pc' := 193) rfl (hb hby at_172) rfl ((if0 _ _).trans (feq hc143).2) (by decide) (by decide) k_) ?_
          show own_Goes p e below (T140.setTop (mkF m 193 #[.val (.int x0), .val (.int x1), .val (.int x2), .val (.int x3), .val (.int x4), .val (.ref b1), .val (.ref b9), .val (.ref b17), .val (.int ((x1 &&& (2147483647 : Int32)) % (5 : Int32))), .val (.int ((x3 &&& (2147483647 : Int32)) % (5 : Int32))), .val (.int (0 : Int32)), .val (.int (1 : Int32)), .val (.ref b125), .val (.ref b134), .val (.int ((x4 &&& (2147483647 : Int32)) % (3 : Int32))), .val .null, .unset, .unset, .unset] [])) _
          refine own_go (fun t_ k_ => XS.iconst X140.here hx rfl (hb hby at_193) k_) ?_
          show own_Goes p e below (T140.setTop (mkF m 194 #[.val (.int x0), .val (.int x1), .val (.int x2), .val (.int x3), .val (.int x4), .val (.ref b1), .val (.ref b9), .val (.ref b17), .val (.int ((x1 &&& (2147483647 : Int32)) % (5 : Int32))), .val (.int ((x3 &&& (2147483647 : Int32)) % (5 : Int32))), .val (.int (0 : Int32)), .val (.int (1 : Int32)), .val (.ref b125), .val (.ref b134), .val (.int ((x4 &&& (2147483647 : Int32)) % (3 : Int32))), .val .null, .unset, .unset, .unset] [(.int (0 : Int32))])) _
          refine own_go (fun t_ k_ => XS.istore X140.here hx rfl (hb hby at_194) rfl (l' := #[.val (.int x0), .val (.int x1), .val (.int x2), .val (.int x3), .val (.int x4), .val (.ref b1), .val (.ref b9), .val (.ref b17), .val (.int ((x1 &&& (2147483647 : Int32)) % (5 : Int32))), .val (.int ((x3 &&& (2147483647 : Int32)) % (5 : Int32))), .val (.int (0 : Int32)), .val (.int (1 : Int32)), .val (.ref b125), .val (.ref b134), .val (.int ((x4 &&& (2147483647 : Int32)) % (3 : Int32))), .val .null, .val (.int (0 : Int32)), .unset, .unset]) rfl k_) ?_
          show own_Goes p e below (T140.setTop (mkF m 196 #[.val (.int x0), .val (.int x1), .val (.int x2), .val (.int x3), .val (.int x4), .val (.ref b1), .val (.ref b9), .val (.ref b17), .val (.int ((x1 &&& (2147483647 : Int32)) % (5 : Int32))), .val (.int ((x3 &&& (2147483647 : Int32)) % (5 : Int32))), .val (.int (0 : Int32)), .val (.int (1 : Int32)), .val (.ref b125), .val (.ref b134), .val (.int ((x4 &&& (2147483647 : Int32)) % (3 : Int32))), .val .null, .val (.int (0 : Int32)), .unset, .unset] [])) _
          refine own_go (fun t_ k_ => XS.aload X140.here hx rfl (hb hby at_196) rfl rfl k_) ?_
          show own_Goes p e below (T140.setTop (mkF m 198 #[.val (.int x0), .val (.int x1), .val (.int x2), .val (.int x3), .val (.int x4), .val (.ref b1), .val (.ref b9), .val (.ref b17), .val (.int ((x1 &&& (2147483647 : Int32)) % (5 : Int32))), .val (.int ((x3 &&& (2147483647 : Int32)) % (5 : Int32))), .val (.int (0 : Int32)), .val (.int (1 : Int32)), .val (.ref b125), .val (.ref b134), .val (.int ((x4 &&& (2147483647 : Int32)) % (3 : Int32))), .val .null, .val (.int (0 : Int32)), .unset, .unset] [(.ref b125)])) _
          refine own_go (fun t_ k_ => XS.aload X140.here hx rfl (hb hby at_198) rfl rfl k_) ?_
          show own_Goes p e below (T140.setTop (mkF m 200 #[.val (.int x0), .val (.int x1), .val (.int x2), .val (.int x3), .val (.int x4), .val (.ref b1), .val (.ref b9), .val (.ref b17), .val (.int ((x1 &&& (2147483647 : Int32)) % (5 : Int32))), .val (.int ((x3 &&& (2147483647 : Int32)) % (5 : Int32))), .val (.int (0 : Int32)), .val (.int (1 : Int32)), .val (.ref b125), .val (.ref b134), .val (.int ((x4 &&& (2147483647 : Int32)) % (3 : Int32))), .val .null, .val (.int (0 : Int32)), .unset, .unset] [.null, (.ref b125)])) _
          have f153 := (((A125.keep Kc131).ext E134).keep Kc140)
          obtain ⟨cqiv154, kqiv154, qiv154a, qiv154b, qiv154c⟩ := isOf hZ140 e140 f153
          obtain ⟨_, _, ⟨T155, L155, k155, n155⟩, -, X155, ⟨Lc155, hQ155, l155, y155, z155⟩, st155⟩ := X140.virtualBack hx (y := own_m14) (z := own_m14) hown140 (mvT hZ140 (hw _ (List.mem_of_getElem? (i := 72) rfl))) (mvT hZ140 (hw _ (List.mem_of_getElem? (i := 73) rfl))) (notFace_of_selects (args := #[]) (mvT hZ140 (hw _ (List.mem_of_getElem? (i := 75) rfl)))) (mvT hZ140 (hw _ (List.mem_of_getElem? (i := 75) rfl))) (mvT hZ140 (hw _ (List.mem_of_getElem? (i := 74) rfl))) (by decide) (backOf (W := 0) (own_eqN l Z a0 hw [] b125 h140 n0 O141) hZ140 (hw _ (List.mem_of_getElem? (i := 76) rfl)) (hw _ (List.mem_of_getElem? (i := 48) rfl)) (by decide) (by decide)) qiv154a qiv154c (g := (mkF m 200 #[.val (.int x0), .val (.int x1), .val (.int x2), .val (.int x3), .val (.int x4), .val (.ref b1), .val (.ref b9), .val (.ref b17), .val (.int ((x1 &&& (2147483647 : Int32)) % (5 : Int32))), .val (.int ((x3 &&& (2147483647 : Int32)) % (5 : Int32))), .val (.int (0 : Int32)), .val (.int (1 : Int32)), .val (.ref b125), .val (.ref b134), .val (.int ((x4 &&& (2147483647 : Int32)) % (3 : Int32))), .val .null, .val (.int (0 : Int32)), .unset, .unset] [.null, (.ref b125)])) rfl (by rw [hml]; rfl) (Steps.refl _) (argsL := [.null]) (rest := []) (lenOf own_pd_13 rfl) rfl (by show 2 * 0 + _ ≤ _; exact Nat.le_of_eq rfl) (hb hby at_200) (fun _ _ => ⟨rfl, e140, (by decide : 17 + 0 ≤ _), (by decide : 200 + 0 ≤ _)⟩)
          dsimp only [Pt.U, Pt.locs, Pt.cells, Pt.slots] at X155 l155 y155 z155 st155 hQ155
          subst l155 y155 z155
          obtain ⟨Nc155, e155, rfl⟩ := hQ155
          have N155 := Fr.app N140 Nc155
          refine own_goS st155 ?_
          show own_Goes p e below (T155.setTop (mkF m 203 #[.val (.int x0), .val (.int x1), .val (.int x2), .val (.int x3), .val (.int x4), .val (.ref b1), .val (.ref b9), .val (.ref b17), .val (.int ((x1 &&& (2147483647 : Int32)) % (5 : Int32))), .val (.int ((x3 &&& (2147483647 : Int32)) % (5 : Int32))), .val (.int (0 : Int32)), .val (.int (1 : Int32)), .val (.ref b125), .val (.ref b134), .val (.int ((x4 &&& (2147483647 : Int32)) % (3 : Int32))), .val .null, .val (.int (0 : Int32)), .unset, .unset] [(.int (0 : Int32))])) _
          refine own_go (fun t_ k_ => XS.istore X155.here hx rfl (hb hby at_203) rfl (l' := #[.val (.int x0), .val (.int x1), .val (.int x2), .val (.int x3), .val (.int x4), .val (.ref b1), .val (.ref b9), .val (.ref b17), .val (.int ((x1 &&& (2147483647 : Int32)) % (5 : Int32))), .val (.int ((x3 &&& (2147483647 : Int32)) % (5 : Int32))), .val (.int (0 : Int32)), .val (.int (1 : Int32)), .val (.ref b125), .val (.ref b134), .val (.int ((x4 &&& (2147483647 : Int32)) % (3 : Int32))), .val .null, .val (.int (0 : Int32)), .val (.int (0 : Int32)), .unset]) rfl k_) ?_
          show own_Goes p e below (T155.setTop (mkF m 205 #[.val (.int x0), .val (.int x1), .val (.int x2), .val (.int x3), .val (.int x4), .val (.ref b1), .val (.ref b9), .val (.ref b17), .val (.int ((x1 &&& (2147483647 : Int32)) % (5 : Int32))), .val (.int ((x3 &&& (2147483647 : Int32)) % (5 : Int32))), .val (.int (0 : Int32)), .val (.int (1 : Int32)), .val (.ref b125), .val (.ref b134), .val (.int ((x4 &&& (2147483647 : Int32)) % (3 : Int32))), .val .null, .val (.int (0 : Int32)), .val (.int (0 : Int32)), .unset] [])) _
          refine own_go (fun t_ k_ => XS.aload X155.here hx rfl (hb hby at_205) rfl rfl k_) ?_
          show own_Goes p e below (T155.setTop (mkF m 207 #[.val (.int x0), .val (.int x1), .val (.int x2), .val (.int x3), .val (.int x4), .val (.ref b1), .val (.ref b9), .val (.ref b17), .val (.int ((x1 &&& (2147483647 : Int32)) % (5 : Int32))), .val (.int ((x3 &&& (2147483647 : Int32)) % (5 : Int32))), .val (.int (0 : Int32)), .val (.int (1 : Int32)), .val (.ref b125), .val (.ref b134), .val (.int ((x4 &&& (2147483647 : Int32)) % (3 : Int32))), .val .null, .val (.int (0 : Int32)), .val (.int (0 : Int32)), .unset] [(.ref b125)])) _
          refine own_go (fun t_ k_ => XS.aload X155.here hx rfl (hb hby at_207) rfl rfl k_) ?_
          show own_Goes p e below (T155.setTop (mkF m 209 #[.val (.int x0), .val (.int x1), .val (.int x2), .val (.int x3), .val (.int x4), .val (.ref b1), .val (.ref b9), .val (.ref b17), .val (.int ((x1 &&& (2147483647 : Int32)) % (5 : Int32))), .val (.int ((x3 &&& (2147483647 : Int32)) % (5 : Int32))), .val (.int (0 : Int32)), .val (.int (1 : Int32)), .val (.ref b125), .val (.ref b134), .val (.int ((x4 &&& (2147483647 : Int32)) % (3 : Int32))), .val .null, .val (.int (0 : Int32)), .val (.int (0 : Int32)), .unset] [(.ref b125), (.ref b125)])) _
          have f156 := ((c131_0.ext E134).keep Kc140 (ninS (own_ne (a := b125) (b := b134) (by omega)) nin0))
          have f157 := ((c131_1.ext E134).keep Kc140 (ninS (own_ne (a := b125) (b := b134) (by omega)) nin0))
          obtain ⟨cqiv158, kqiv158, qiv158a, qiv158b, qiv158c⟩ := isOf hZ140 e155 f153
          obtain ⟨_, _, ⟨T159, L159, k159, n159⟩, -, X159, ⟨Lc159, hQ159, l159, y159, z159⟩, st159⟩ := X155.virtualBack hx (y := own_m14) (z := own_m14) hown140 (mvT hZ140 (hw _ (List.mem_of_getElem? (i := 72) rfl))) (mvT hZ140 (hw _ (List.mem_of_getElem? (i := 73) rfl))) (notFace_of_selects (args := #[]) (mvT hZ140 (hw _ (List.mem_of_getElem? (i := 75) rfl)))) (mvT hZ140 (hw _ (List.mem_of_getElem? (i := 75) rfl))) (mvT hZ140 (hw _ (List.mem_of_getElem? (i := 74) rfl))) (by decide) (backOf (W := 0) (own_eqT l Z a0 hw [] b125 b125 b17 b17 r_129 r_129 h140 n0 O141 f153 f156 f156 f157 f157 (show b17 = b17 from rfl) (show r_129 = r_129 from rfl)) hZ140 (hw _ (List.mem_of_getElem? (i := 76) rfl)) (hw _ (List.mem_of_getElem? (i := 48) rfl)) (by decide) (by decide)) qiv158a qiv158c (g := (mkF m 209 #[.val (.int x0), .val (.int x1), .val (.int x2), .val (.int x3), .val (.int x4), .val (.ref b1), .val (.ref b9), .val (.ref b17), .val (.int ((x1 &&& (2147483647 : Int32)) % (5 : Int32))), .val (.int ((x3 &&& (2147483647 : Int32)) % (5 : Int32))), .val (.int (0 : Int32)), .val (.int (1 : Int32)), .val (.ref b125), .val (.ref b134), .val (.int ((x4 &&& (2147483647 : Int32)) % (3 : Int32))), .val .null, .val (.int (0 : Int32)), .val (.int (0 : Int32)), .unset] [(.ref b125), (.ref b125)])) rfl (by rw [hml]; rfl) (Steps.refl _) (argsL := [(.ref b125)]) (rest := []) (lenOf own_pd_13 rfl) rfl (by show 2 * 0 + _ ≤ _; exact Nat.le_of_eq rfl) (hb hby at_209) (fun _ _ => ⟨rfl, e155, (by decide : 17 + 0 ≤ _), (by decide : 200 + 0 ≤ _)⟩)
          dsimp only [Pt.U, Pt.locs, Pt.cells, Pt.slots] at X159 l159 y159 z159 st159 hQ159
          subst l159 y159 z159
          obtain ⟨Nc159, e159, rfl⟩ := hQ159
          have N159 := Fr.app N155 Nc159
          refine own_goS st159 ?_
          show own_Goes p e below (T159.setTop (mkF m 212 #[.val (.int x0), .val (.int x1), .val (.int x2), .val (.int x3), .val (.int x4), .val (.ref b1), .val (.ref b9), .val (.ref b17), .val (.int ((x1 &&& (2147483647 : Int32)) % (5 : Int32))), .val (.int ((x3 &&& (2147483647 : Int32)) % (5 : Int32))), .val (.int (0 : Int32)), .val (.int (1 : Int32)), .val (.ref b125), .val (.ref b134), .val (.int ((x4 &&& (2147483647 : Int32)) % (3 : Int32))), .val .null, .val (.int (0 : Int32)), .val (.int (0 : Int32)), .unset] [(.int (1 : Int32))])) _
          refine own_go (fun t_ k_ => XS.istore X159.here hx rfl (hb hby at_212) rfl (l' := #[.val (.int x0), .val (.int x1), .val (.int x2), .val (.int x3), .val (.int x4), .val (.ref b1), .val (.ref b9), .val (.ref b17), .val (.int ((x1 &&& (2147483647 : Int32)) % (5 : Int32))), .val (.int ((x3 &&& (2147483647 : Int32)) % (5 : Int32))), .val (.int (0 : Int32)), .val (.int (1 : Int32)), .val (.ref b125), .val (.ref b134), .val (.int ((x4 &&& (2147483647 : Int32)) % (3 : Int32))), .val .null, .val (.int (0 : Int32)), .val (.int (0 : Int32)), .val (.int (1 : Int32))]) rfl k_) ?_
          show own_Goes p e below (T159.setTop (mkF m 214 #[.val (.int x0), .val (.int x1), .val (.int x2), .val (.int x3), .val (.int x4), .val (.ref b1), .val (.ref b9), .val (.ref b17), .val (.int ((x1 &&& (2147483647 : Int32)) % (5 : Int32))), .val (.int ((x3 &&& (2147483647 : Int32)) % (5 : Int32))), .val (.int (0 : Int32)), .val (.int (1 : Int32)), .val (.ref b125), .val (.ref b134), .val (.int ((x4 &&& (2147483647 : Int32)) % (3 : Int32))), .val .null, .val (.int (0 : Int32)), .val (.int (0 : Int32)), .val (.int (1 : Int32))] [])) _
          refine own_go (fun t_ k_ => XS.iload X159.here hx rfl (hb hby at_214) rfl k_) ?_
          show own_Goes p e below (T159.setTop (mkF m 216 #[.val (.int x0), .val (.int x1), .val (.int x2), .val (.int x3), .val (.int x4), .val (.ref b1), .val (.ref b9), .val (.ref b17), .val (.int ((x1 &&& (2147483647 : Int32)) % (5 : Int32))), .val (.int ((x3 &&& (2147483647 : Int32)) % (5 : Int32))), .val (.int (0 : Int32)), .val (.int (1 : Int32)), .val (.ref b125), .val (.ref b134), .val (.int ((x4 &&& (2147483647 : Int32)) % (3 : Int32))), .val .null, .val (.int (0 : Int32)), .val (.int (0 : Int32)), .val (.int (1 : Int32))] [(.int (0 : Int32))])) _
          refine own_go (fun t_ k_ => XS.iload X159.here hx rfl (hb hby at_216) rfl k_) ?_
          show own_Goes p e below (T159.setTop (mkF m 218 #[.val (.int x0), .val (.int x1), .val (.int x2), .val (.int x3), .val (.int x4), .val (.ref b1), .val (.ref b9), .val (.ref b17), .val (.int ((x1 &&& (2147483647 : Int32)) % (5 : Int32))), .val (.int ((x3 &&& (2147483647 : Int32)) % (5 : Int32))), .val (.int (0 : Int32)), .val (.int (1 : Int32)), .val (.ref b125), .val (.ref b134), .val (.int ((x4 &&& (2147483647 : Int32)) % (3 : Int32))), .val .null, .val (.int (0 : Int32)), .val (.int (0 : Int32)), .val (.int (1 : Int32))] [(.int (0 : Int32)), (.int (0 : Int32))])) _
          refine own_go (fun t_ k_ => XS.icmpNo X159.here hx rfl (hb hby at_218) rfl (teq (show ((0 : Int32) = (0 : Int32)) from by decide)).2 k_) ?_
          show own_Goes p e below (T159.setTop (mkF m 221 #[.val (.int x0), .val (.int x1), .val (.int x2), .val (.int x3), .val (.int x4), .val (.ref b1), .val (.ref b9), .val (.ref b17), .val (.int ((x1 &&& (2147483647 : Int32)) % (5 : Int32))), .val (.int ((x3 &&& (2147483647 : Int32)) % (5 : Int32))), .val (.int (0 : Int32)), .val (.int (1 : Int32)), .val (.ref b125), .val (.ref b134), .val (.int ((x4 &&& (2147483647 : Int32)) % (3 : Int32))), .val .null, .val (.int (0 : Int32)), .val (.int (0 : Int32)), .val (.int (1 : Int32))] [])) _
          refine own_go (fun t_ k_ => XS.iload X159.here hx rfl (hb hby at_221) rfl k_) ?_
          show own_Goes p e below (T159.setTop (mkF m 223 #[.val (.int x0), .val (.int x1), .val (.int x2), .val (.int x3), .val (.int x4), .val (.ref b1), .val (.ref b9), .val (.ref b17), .val (.int ((x1 &&& (2147483647 : Int32)) % (5 : Int32))), .val (.int ((x3 &&& (2147483647 : Int32)) % (5 : Int32))), .val (.int (0 : Int32)), .val (.int (1 : Int32)), .val (.ref b125), .val (.ref b134), .val (.int ((x4 &&& (2147483647 : Int32)) % (3 : Int32))), .val .null, .val (.int (0 : Int32)), .val (.int (0 : Int32)), .val (.int (1 : Int32))] [(.int (1 : Int32))])) _
          refine own_go (fun t_ k_ => XS.ifNo X159.here hx rfl (hb hby at_223) rfl ((if0 _ _).trans (feq (show ¬ ((1 : Int32) = (0 : Int32)) from by decide)).1) k_) ?_
          show own_Goes p e below (T159.setTop (mkF m 226 #[.val (.int x0), .val (.int x1), .val (.int x2), .val (.int x3), .val (.int x4), .val (.ref b1), .val (.ref b9), .val (.ref b17), .val (.int ((x1 &&& (2147483647 : Int32)) % (5 : Int32))), .val (.int ((x3 &&& (2147483647 : Int32)) % (5 : Int32))), .val (.int (0 : Int32)), .val (.int (1 : Int32)), .val (.ref b125), .val (.ref b134), .val (.int ((x4 &&& (2147483647 : Int32)) % (3 : Int32))), .val .null, .val (.int (0 : Int32)), .val (.int (0 : Int32)), .val (.int (1 : Int32))] [])) _
          refine own_go (fun t_ k_ => XS.iconst X159.here hx rfl (hb hby at_226) k_) ?_
          show own_Goes p e below (T159.setTop (mkF m 227 #[.val (.int x0), .val (.int x1), .val (.int x2), .val (.int x3), .val (.int x4), .val (.ref b1), .val (.ref b9), .val (.ref b17), .val (.int ((x1 &&& (2147483647 : Int32)) % (5 : Int32))), .val (.int ((x3 &&& (2147483647 : Int32)) % (5 : Int32))), .val (.int (0 : Int32)), .val (.int (1 : Int32)), .val (.ref b125), .val (.ref b134), .val (.int ((x4 &&& (2147483647 : Int32)) % (3 : Int32))), .val .null, .val (.int (0 : Int32)), .val (.int (0 : Int32)), .val (.int (1 : Int32))] [(.int (1 : Int32))])) _
          refine own_go (fun t_ k_ => XS.goto X159.here hx rfl (pc0 := 227) (pc' := 231) rfl (hb hby at_227) (by decide) (by decide) k_) ?_
          show own_Goes p e below (T159.setTop (mkF m 231 #[.val (.int x0), .val (.int x1), .val (.int x2), .val (.int x3), .val (.int x4), .val (.ref b1), .val (.ref b9), .val (.ref b17), .val (.int ((x1 &&& (2147483647 : Int32)) % (5 : Int32))), .val (.int ((x3 &&& (2147483647 : Int32)) % (5 : Int32))), .val (.int (0 : Int32)), .val (.int (1 : Int32)), .val (.ref b125), .val (.ref b134), .val (.int ((x4 &&& (2147483647 : Int32)) % (3 : Int32))), .val .null, .val (.int (0 : Int32)), .val (.int (0 : Int32)), .val (.int (1 : Int32))] [(.int (1 : Int32))])) _
          refine own_endW X159 hS140 (show _ ≤ T159.heap.size by rw [e159]; exact hk140) (v := (some (.int (1 : Int32)))) (fun h => by rw [hret] at h; cases h) hlk (by decide) (by decide) ?_ (fun fs hr => retOut X159 hx hret rfl (Or.inl ⟨rfl, Or.inr (Or.inl rfl), _, rfl⟩) (hb hby at_231) hr)
          show Q_rm0 Z x0 x1 x2 x3 x4 gw0 gw1 gw2 gw3 gw4 h0 n0 _ T159.heap _
          rw [e159]
          exact ⟨N159, trivial, rfl⟩
        · refine own_go (fun t_ k_ => XS.icmpYes X140.here hx rfl (pc0 := 147) (pc' := 156) rfl (hb hby at_147) rfl (feq hc152).2 (by decide) (by decide) k_) ?_
          show own_Goes p e below (T140.setTop (mkF m 156 #[.val (.int x0), .val (.int x1), .val (.int x2), .val (.int x3), .val (.int x4), .val (.ref b1), .val (.ref b9), .val (.ref b17), .val (.int ((x1 &&& (2147483647 : Int32)) % (5 : Int32))), .val (.int ((x3 &&& (2147483647 : Int32)) % (5 : Int32))), .val (.int (0 : Int32)), .val (.int (1 : Int32)), .val (.ref b125), .val (.ref b134), .val (.int ((x4 &&& (2147483647 : Int32)) % (3 : Int32))), .unset, .unset, .unset, .unset] [])) _
          refine own_go (fun t_ k_ => XS.iload X140.here hx rfl (hb hby at_156) rfl k_) ?_
          show own_Goes p e below (T140.setTop (mkF m 158 #[.val (.int x0), .val (.int x1), .val (.int x2), .val (.int x3), .val (.int x4), .val (.ref b1), .val (.ref b9), .val (.ref b17), .val (.int ((x1 &&& (2147483647 : Int32)) % (5 : Int32))), .val (.int ((x3 &&& (2147483647 : Int32)) % (5 : Int32))), .val (.int (0 : Int32)), .val (.int (1 : Int32)), .val (.ref b125), .val (.ref b134), .val (.int ((x4 &&& (2147483647 : Int32)) % (3 : Int32))), .unset, .unset, .unset, .unset] [(.int (1 : Int32))])) _
          refine own_go (fun t_ k_ => XS.ifNo X140.here hx rfl (hb hby at_158) rfl ((if0 _ _).trans (feq (show ¬ ((1 : Int32) = (0 : Int32)) from by decide)).1) k_) ?_
          show own_Goes p e below (T140.setTop (mkF m 161 #[.val (.int x0), .val (.int x1), .val (.int x2), .val (.int x3), .val (.int x4), .val (.ref b1), .val (.ref b9), .val (.ref b17), .val (.int ((x1 &&& (2147483647 : Int32)) % (5 : Int32))), .val (.int ((x3 &&& (2147483647 : Int32)) % (5 : Int32))), .val (.int (0 : Int32)), .val (.int (1 : Int32)), .val (.ref b125), .val (.ref b134), .val (.int ((x4 &&& (2147483647 : Int32)) % (3 : Int32))), .unset, .unset, .unset, .unset] [])) _
          refine own_go (fun t_ k_ => XS.aload X140.here hx rfl (hb hby at_161) rfl rfl k_) ?_
          show own_Goes p e below (T140.setTop (mkF m 163 #[.val (.int x0), .val (.int x1), .val (.int x2), .val (.int x3), .val (.int x4), .val (.ref b1), .val (.ref b9), .val (.ref b17), .val (.int ((x1 &&& (2147483647 : Int32)) % (5 : Int32))), .val (.int ((x3 &&& (2147483647 : Int32)) % (5 : Int32))), .val (.int (0 : Int32)), .val (.int (1 : Int32)), .val (.ref b125), .val (.ref b134), .val (.int ((x4 &&& (2147483647 : Int32)) % (3 : Int32))), .unset, .unset, .unset, .unset] [(.ref b9)])) _
          refine own_go (fun t_ k_ => XS.goto X140.here hx rfl (pc0 := 163) (pc' := 168) rfl (hb hby at_163) (by decide) (by decide) k_) ?_
          show own_Goes p e below (T140.setTop (mkF m 168 #[.val (.int x0), .val (.int x1), .val (.int x2), .val (.int x3), .val (.int x4), .val (.ref b1), .val (.ref b9), .val (.ref b17), .val (.int ((x1 &&& (2147483647 : Int32)) % (5 : Int32))), .val (.int ((x3 &&& (2147483647 : Int32)) % (5 : Int32))), .val (.int (0 : Int32)), .val (.int (1 : Int32)), .val (.ref b125), .val (.ref b134), .val (.int ((x4 &&& (2147483647 : Int32)) % (3 : Int32))), .unset, .unset, .unset, .unset] [(.ref b9)])) _
          refine own_go (fun t_ k_ => XS.astore X140.here hx rfl (hb hby at_168) rfl rfl (l' := #[.val (.int x0), .val (.int x1), .val (.int x2), .val (.int x3), .val (.int x4), .val (.ref b1), .val (.ref b9), .val (.ref b17), .val (.int ((x1 &&& (2147483647 : Int32)) % (5 : Int32))), .val (.int ((x3 &&& (2147483647 : Int32)) % (5 : Int32))), .val (.int (0 : Int32)), .val (.int (1 : Int32)), .val (.ref b125), .val (.ref b134), .val (.int ((x4 &&& (2147483647 : Int32)) % (3 : Int32))), .val (.ref b9), .unset, .unset, .unset]) rfl k_) ?_
          show own_Goes p e below (T140.setTop (mkF m 170 #[.val (.int x0), .val (.int x1), .val (.int x2), .val (.int x3), .val (.int x4), .val (.ref b1), .val (.ref b9), .val (.ref b17), .val (.int ((x1 &&& (2147483647 : Int32)) % (5 : Int32))), .val (.int ((x3 &&& (2147483647 : Int32)) % (5 : Int32))), .val (.int (0 : Int32)), .val (.int (1 : Int32)), .val (.ref b125), .val (.ref b134), .val (.int ((x4 &&& (2147483647 : Int32)) % (3 : Int32))), .val (.ref b9), .unset, .unset, .unset] [])) _
          refine own_go (fun t_ k_ => XS.iload X140.here hx rfl (hb hby at_170) rfl k_) ?_
          show own_Goes p e below (T140.setTop (mkF m 172 #[.val (.int x0), .val (.int x1), .val (.int x2), .val (.int x3), .val (.int x4), .val (.ref b1), .val (.ref b9), .val (.ref b17), .val (.int ((x1 &&& (2147483647 : Int32)) % (5 : Int32))), .val (.int ((x3 &&& (2147483647 : Int32)) % (5 : Int32))), .val (.int (0 : Int32)), .val (.int (1 : Int32)), .val (.ref b125), .val (.ref b134), .val (.int ((x4 &&& (2147483647 : Int32)) % (3 : Int32))), .val (.ref b9), .unset, .unset, .unset] [(.int ((x4 &&& (2147483647 : Int32)) % (3 : Int32)))])) _
          refine own_go (fun t_ k_ => XS.ifYes X140.here hx rfl (pc0 := 172) (pc' := 193) rfl (hb hby at_172) rfl ((if0 _ _).trans (feq hc143).2) (by decide) (by decide) k_) ?_
          show own_Goes p e below (T140.setTop (mkF m 193 #[.val (.int x0), .val (.int x1), .val (.int x2), .val (.int x3), .val (.int x4), .val (.ref b1), .val (.ref b9), .val (.ref b17), .val (.int ((x1 &&& (2147483647 : Int32)) % (5 : Int32))), .val (.int ((x3 &&& (2147483647 : Int32)) % (5 : Int32))), .val (.int (0 : Int32)), .val (.int (1 : Int32)), .val (.ref b125), .val (.ref b134), .val (.int ((x4 &&& (2147483647 : Int32)) % (3 : Int32))), .val (.ref b9), .unset, .unset, .unset] [])) _
          refine own_go (fun t_ k_ => XS.iconst X140.here hx rfl (hb hby at_193) k_) ?_
          show own_Goes p e below (T140.setTop (mkF m 194 #[.val (.int x0), .val (.int x1), .val (.int x2), .val (.int x3), .val (.int x4), .val (.ref b1), .val (.ref b9), .val (.ref b17), .val (.int ((x1 &&& (2147483647 : Int32)) % (5 : Int32))), .val (.int ((x3 &&& (2147483647 : Int32)) % (5 : Int32))), .val (.int (0 : Int32)), .val (.int (1 : Int32)), .val (.ref b125), .val (.ref b134), .val (.int ((x4 &&& (2147483647 : Int32)) % (3 : Int32))), .val (.ref b9), .unset, .unset, .unset] [(.int (0 : Int32))])) _
          refine own_go (fun t_ k_ => XS.istore X140.here hx rfl (hb hby at_194) rfl (l' := #[.val (.int x0), .val (.int x1), .val (.int x2), .val (.int x3), .val (.int x4), .val (.ref b1), .val (.ref b9), .val (.ref b17), .val (.int ((x1 &&& (2147483647 : Int32)) % (5 : Int32))), .val (.int ((x3 &&& (2147483647 : Int32)) % (5 : Int32))), .val (.int (0 : Int32)), .val (.int (1 : Int32)), .val (.ref b125), .val (.ref b134), .val (.int ((x4 &&& (2147483647 : Int32)) % (3 : Int32))), .val (.ref b9), .val (.int (0 : Int32)), .unset, .unset]) rfl k_) ?_
          show own_Goes p e below (T140.setTop (mkF m 196 #[.val (.int x0), .val (.int x1), .val (.int x2), .val (.int x3), .val (.int x4), .val (.ref b1), .val (.ref b9), .val (.ref b17), .val (.int ((x1 &&& (2147483647 : Int32)) % (5 : Int32))), .val (.int ((x3 &&& (2147483647 : Int32)) % (5 : Int32))), .val (.int (0 : Int32)), .val (.int (1 : Int32)), .val (.ref b125), .val (.ref b134), .val (.int ((x4 &&& (2147483647 : Int32)) % (3 : Int32))), .val (.ref b9), .val (.int (0 : Int32)), .unset, .unset] [])) _
          refine own_go (fun t_ k_ => XS.aload X140.here hx rfl (hb hby at_196) rfl rfl k_) ?_
          show own_Goes p e below (T140.setTop (mkF m 198 #[.val (.int x0), .val (.int x1), .val (.int x2), .val (.int x3), .val (.int x4), .val (.ref b1), .val (.ref b9), .val (.ref b17), .val (.int ((x1 &&& (2147483647 : Int32)) % (5 : Int32))), .val (.int ((x3 &&& (2147483647 : Int32)) % (5 : Int32))), .val (.int (0 : Int32)), .val (.int (1 : Int32)), .val (.ref b125), .val (.ref b134), .val (.int ((x4 &&& (2147483647 : Int32)) % (3 : Int32))), .val (.ref b9), .val (.int (0 : Int32)), .unset, .unset] [(.ref b125)])) _
          refine own_go (fun t_ k_ => XS.aload X140.here hx rfl (hb hby at_198) rfl rfl k_) ?_
          show own_Goes p e below (T140.setTop (mkF m 200 #[.val (.int x0), .val (.int x1), .val (.int x2), .val (.int x3), .val (.int x4), .val (.ref b1), .val (.ref b9), .val (.ref b17), .val (.int ((x1 &&& (2147483647 : Int32)) % (5 : Int32))), .val (.int ((x3 &&& (2147483647 : Int32)) % (5 : Int32))), .val (.int (0 : Int32)), .val (.int (1 : Int32)), .val (.ref b125), .val (.ref b134), .val (.int ((x4 &&& (2147483647 : Int32)) % (3 : Int32))), .val (.ref b9), .val (.int (0 : Int32)), .unset, .unset] [(.ref b9), (.ref b125)])) _
          have f160 := (f139.keep Kc140)
          have f161 := (((A125.keep Kc131).ext E134).keep Kc140)
          obtain ⟨cqiv162, kqiv162, qiv162a, qiv162b, qiv162c⟩ := isOf hZ140 e140 f161
          obtain ⟨_, _, ⟨T163, L163, k163, n163⟩, -, X163, ⟨Lc163, hQ163, l163, y163, z163⟩, st163⟩ := X140.virtualBack hx (y := own_m14) (z := own_m14) hown140 (mvT hZ140 (hw _ (List.mem_of_getElem? (i := 72) rfl))) (mvT hZ140 (hw _ (List.mem_of_getElem? (i := 73) rfl))) (notFace_of_selects (args := #[]) (mvT hZ140 (hw _ (List.mem_of_getElem? (i := 75) rfl)))) (mvT hZ140 (hw _ (List.mem_of_getElem? (i := 75) rfl))) (mvT hZ140 (hw _ (List.mem_of_getElem? (i := 74) rfl))) (by decide) (backOf (W := 0) (own_eqO l Z a0 hw [] b125 b9 h140 n0 O141 f160) hZ140 (hw _ (List.mem_of_getElem? (i := 76) rfl)) (hw _ (List.mem_of_getElem? (i := 48) rfl)) (by decide) (by decide)) qiv162a qiv162c (g := (mkF m 200 #[.val (.int x0), .val (.int x1), .val (.int x2), .val (.int x3), .val (.int x4), .val (.ref b1), .val (.ref b9), .val (.ref b17), .val (.int ((x1 &&& (2147483647 : Int32)) % (5 : Int32))), .val (.int ((x3 &&& (2147483647 : Int32)) % (5 : Int32))), .val (.int (0 : Int32)), .val (.int (1 : Int32)), .val (.ref b125), .val (.ref b134), .val (.int ((x4 &&& (2147483647 : Int32)) % (3 : Int32))), .val (.ref b9), .val (.int (0 : Int32)), .unset, .unset] [(.ref b9), (.ref b125)])) rfl (by rw [hml]; rfl) (Steps.refl _) (argsL := [(.ref b9)]) (rest := []) (lenOf own_pd_13 rfl) rfl (by show 2 * 0 + _ ≤ _; exact Nat.le_of_eq rfl) (hb hby at_200) (fun _ _ => ⟨rfl, e140, (by decide : 17 + 0 ≤ _), (by decide : 200 + 0 ≤ _)⟩)
          dsimp only [Pt.U, Pt.locs, Pt.cells, Pt.slots] at X163 l163 y163 z163 st163 hQ163
          subst l163 y163 z163
          obtain ⟨Nc163, e163, rfl⟩ := hQ163
          have N163 := Fr.app N140 Nc163
          refine own_goS st163 ?_
          show own_Goes p e below (T163.setTop (mkF m 203 #[.val (.int x0), .val (.int x1), .val (.int x2), .val (.int x3), .val (.int x4), .val (.ref b1), .val (.ref b9), .val (.ref b17), .val (.int ((x1 &&& (2147483647 : Int32)) % (5 : Int32))), .val (.int ((x3 &&& (2147483647 : Int32)) % (5 : Int32))), .val (.int (0 : Int32)), .val (.int (1 : Int32)), .val (.ref b125), .val (.ref b134), .val (.int ((x4 &&& (2147483647 : Int32)) % (3 : Int32))), .val (.ref b9), .val (.int (0 : Int32)), .unset, .unset] [(.int (0 : Int32))])) _
          refine own_go (fun t_ k_ => XS.istore X163.here hx rfl (hb hby at_203) rfl (l' := #[.val (.int x0), .val (.int x1), .val (.int x2), .val (.int x3), .val (.int x4), .val (.ref b1), .val (.ref b9), .val (.ref b17), .val (.int ((x1 &&& (2147483647 : Int32)) % (5 : Int32))), .val (.int ((x3 &&& (2147483647 : Int32)) % (5 : Int32))), .val (.int (0 : Int32)), .val (.int (1 : Int32)), .val (.ref b125), .val (.ref b134), .val (.int ((x4 &&& (2147483647 : Int32)) % (3 : Int32))), .val (.ref b9), .val (.int (0 : Int32)), .val (.int (0 : Int32)), .unset]) rfl k_) ?_
          show own_Goes p e below (T163.setTop (mkF m 205 #[.val (.int x0), .val (.int x1), .val (.int x2), .val (.int x3), .val (.int x4), .val (.ref b1), .val (.ref b9), .val (.ref b17), .val (.int ((x1 &&& (2147483647 : Int32)) % (5 : Int32))), .val (.int ((x3 &&& (2147483647 : Int32)) % (5 : Int32))), .val (.int (0 : Int32)), .val (.int (1 : Int32)), .val (.ref b125), .val (.ref b134), .val (.int ((x4 &&& (2147483647 : Int32)) % (3 : Int32))), .val (.ref b9), .val (.int (0 : Int32)), .val (.int (0 : Int32)), .unset] [])) _
          refine own_go (fun t_ k_ => XS.aload X163.here hx rfl (hb hby at_205) rfl rfl k_) ?_
          show own_Goes p e below (T163.setTop (mkF m 207 #[.val (.int x0), .val (.int x1), .val (.int x2), .val (.int x3), .val (.int x4), .val (.ref b1), .val (.ref b9), .val (.ref b17), .val (.int ((x1 &&& (2147483647 : Int32)) % (5 : Int32))), .val (.int ((x3 &&& (2147483647 : Int32)) % (5 : Int32))), .val (.int (0 : Int32)), .val (.int (1 : Int32)), .val (.ref b125), .val (.ref b134), .val (.int ((x4 &&& (2147483647 : Int32)) % (3 : Int32))), .val (.ref b9), .val (.int (0 : Int32)), .val (.int (0 : Int32)), .unset] [(.ref b125)])) _
          refine own_go (fun t_ k_ => XS.aload X163.here hx rfl (hb hby at_207) rfl rfl k_) ?_
          show own_Goes p e below (T163.setTop (mkF m 209 #[.val (.int x0), .val (.int x1), .val (.int x2), .val (.int x3), .val (.int x4), .val (.ref b1), .val (.ref b9), .val (.ref b17), .val (.int ((x1 &&& (2147483647 : Int32)) % (5 : Int32))), .val (.int ((x3 &&& (2147483647 : Int32)) % (5 : Int32))), .val (.int (0 : Int32)), .val (.int (1 : Int32)), .val (.ref b125), .val (.ref b134), .val (.int ((x4 &&& (2147483647 : Int32)) % (3 : Int32))), .val (.ref b9), .val (.int (0 : Int32)), .val (.int (0 : Int32)), .unset] [(.ref b125), (.ref b125)])) _
          have f164 := ((c131_0.ext E134).keep Kc140 (ninS (own_ne (a := b125) (b := b134) (by omega)) nin0))
          have f165 := ((c131_1.ext E134).keep Kc140 (ninS (own_ne (a := b125) (b := b134) (by omega)) nin0))
          obtain ⟨cqiv166, kqiv166, qiv166a, qiv166b, qiv166c⟩ := isOf hZ140 e163 f161
          obtain ⟨_, _, ⟨T167, L167, k167, n167⟩, -, X167, ⟨Lc167, hQ167, l167, y167, z167⟩, st167⟩ := X163.virtualBack hx (y := own_m14) (z := own_m14) hown140 (mvT hZ140 (hw _ (List.mem_of_getElem? (i := 72) rfl))) (mvT hZ140 (hw _ (List.mem_of_getElem? (i := 73) rfl))) (notFace_of_selects (args := #[]) (mvT hZ140 (hw _ (List.mem_of_getElem? (i := 75) rfl)))) (mvT hZ140 (hw _ (List.mem_of_getElem? (i := 75) rfl))) (mvT hZ140 (hw _ (List.mem_of_getElem? (i := 74) rfl))) (by decide) (backOf (W := 0) (own_eqT l Z a0 hw [] b125 b125 b17 b17 r_129 r_129 h140 n0 O141 f161 f164 f164 f165 f165 (show b17 = b17 from rfl) (show r_129 = r_129 from rfl)) hZ140 (hw _ (List.mem_of_getElem? (i := 76) rfl)) (hw _ (List.mem_of_getElem? (i := 48) rfl)) (by decide) (by decide)) qiv166a qiv166c (g := (mkF m 209 #[.val (.int x0), .val (.int x1), .val (.int x2), .val (.int x3), .val (.int x4), .val (.ref b1), .val (.ref b9), .val (.ref b17), .val (.int ((x1 &&& (2147483647 : Int32)) % (5 : Int32))), .val (.int ((x3 &&& (2147483647 : Int32)) % (5 : Int32))), .val (.int (0 : Int32)), .val (.int (1 : Int32)), .val (.ref b125), .val (.ref b134), .val (.int ((x4 &&& (2147483647 : Int32)) % (3 : Int32))), .val (.ref b9), .val (.int (0 : Int32)), .val (.int (0 : Int32)), .unset] [(.ref b125), (.ref b125)])) rfl (by rw [hml]; rfl) (Steps.refl _) (argsL := [(.ref b125)]) (rest := []) (lenOf own_pd_13 rfl) rfl (by show 2 * 0 + _ ≤ _; exact Nat.le_of_eq rfl) (hb hby at_209) (fun _ _ => ⟨rfl, e163, (by decide : 17 + 0 ≤ _), (by decide : 200 + 0 ≤ _)⟩)
          dsimp only [Pt.U, Pt.locs, Pt.cells, Pt.slots] at X167 l167 y167 z167 st167 hQ167
          subst l167 y167 z167
          obtain ⟨Nc167, e167, rfl⟩ := hQ167
          have N167 := Fr.app N163 Nc167
          refine own_goS st167 ?_
          show own_Goes p e below (T167.setTop (mkF m 212 #[.val (.int x0), .val (.int x1), .val (.int x2), .val (.int x3), .val (.int x4), .val (.ref b1), .val (.ref b9), .val (.ref b17), .val (.int ((x1 &&& (2147483647 : Int32)) % (5 : Int32))), .val (.int ((x3 &&& (2147483647 : Int32)) % (5 : Int32))), .val (.int (0 : Int32)), .val (.int (1 : Int32)), .val (.ref b125), .val (.ref b134), .val (.int ((x4 &&& (2147483647 : Int32)) % (3 : Int32))), .val (.ref b9), .val (.int (0 : Int32)), .val (.int (0 : Int32)), .unset] [(.int (1 : Int32))])) _
          refine own_go (fun t_ k_ => XS.istore X167.here hx rfl (hb hby at_212) rfl (l' := #[.val (.int x0), .val (.int x1), .val (.int x2), .val (.int x3), .val (.int x4), .val (.ref b1), .val (.ref b9), .val (.ref b17), .val (.int ((x1 &&& (2147483647 : Int32)) % (5 : Int32))), .val (.int ((x3 &&& (2147483647 : Int32)) % (5 : Int32))), .val (.int (0 : Int32)), .val (.int (1 : Int32)), .val (.ref b125), .val (.ref b134), .val (.int ((x4 &&& (2147483647 : Int32)) % (3 : Int32))), .val (.ref b9), .val (.int (0 : Int32)), .val (.int (0 : Int32)), .val (.int (1 : Int32))]) rfl k_) ?_
          show own_Goes p e below (T167.setTop (mkF m 214 #[.val (.int x0), .val (.int x1), .val (.int x2), .val (.int x3), .val (.int x4), .val (.ref b1), .val (.ref b9), .val (.ref b17), .val (.int ((x1 &&& (2147483647 : Int32)) % (5 : Int32))), .val (.int ((x3 &&& (2147483647 : Int32)) % (5 : Int32))), .val (.int (0 : Int32)), .val (.int (1 : Int32)), .val (.ref b125), .val (.ref b134), .val (.int ((x4 &&& (2147483647 : Int32)) % (3 : Int32))), .val (.ref b9), .val (.int (0 : Int32)), .val (.int (0 : Int32)), .val (.int (1 : Int32))] [])) _
          refine own_go (fun t_ k_ => XS.iload X167.here hx rfl (hb hby at_214) rfl k_) ?_
          show own_Goes p e below (T167.setTop (mkF m 216 #[.val (.int x0), .val (.int x1), .val (.int x2), .val (.int x3), .val (.int x4), .val (.ref b1), .val (.ref b9), .val (.ref b17), .val (.int ((x1 &&& (2147483647 : Int32)) % (5 : Int32))), .val (.int ((x3 &&& (2147483647 : Int32)) % (5 : Int32))), .val (.int (0 : Int32)), .val (.int (1 : Int32)), .val (.ref b125), .val (.ref b134), .val (.int ((x4 &&& (2147483647 : Int32)) % (3 : Int32))), .val (.ref b9), .val (.int (0 : Int32)), .val (.int (0 : Int32)), .val (.int (1 : Int32))] [(.int (0 : Int32))])) _
          refine own_go (fun t_ k_ => XS.iload X167.here hx rfl (hb hby at_216) rfl k_) ?_
          show own_Goes p e below (T167.setTop (mkF m 218 #[.val (.int x0), .val (.int x1), .val (.int x2), .val (.int x3), .val (.int x4), .val (.ref b1), .val (.ref b9), .val (.ref b17), .val (.int ((x1 &&& (2147483647 : Int32)) % (5 : Int32))), .val (.int ((x3 &&& (2147483647 : Int32)) % (5 : Int32))), .val (.int (0 : Int32)), .val (.int (1 : Int32)), .val (.ref b125), .val (.ref b134), .val (.int ((x4 &&& (2147483647 : Int32)) % (3 : Int32))), .val (.ref b9), .val (.int (0 : Int32)), .val (.int (0 : Int32)), .val (.int (1 : Int32))] [(.int (0 : Int32)), (.int (0 : Int32))])) _
          refine own_go (fun t_ k_ => XS.icmpNo X167.here hx rfl (hb hby at_218) rfl (teq (show ((0 : Int32) = (0 : Int32)) from by decide)).2 k_) ?_
          show own_Goes p e below (T167.setTop (mkF m 221 #[.val (.int x0), .val (.int x1), .val (.int x2), .val (.int x3), .val (.int x4), .val (.ref b1), .val (.ref b9), .val (.ref b17), .val (.int ((x1 &&& (2147483647 : Int32)) % (5 : Int32))), .val (.int ((x3 &&& (2147483647 : Int32)) % (5 : Int32))), .val (.int (0 : Int32)), .val (.int (1 : Int32)), .val (.ref b125), .val (.ref b134), .val (.int ((x4 &&& (2147483647 : Int32)) % (3 : Int32))), .val (.ref b9), .val (.int (0 : Int32)), .val (.int (0 : Int32)), .val (.int (1 : Int32))] [])) _
          refine own_go (fun t_ k_ => XS.iload X167.here hx rfl (hb hby at_221) rfl k_) ?_
          show own_Goes p e below (T167.setTop (mkF m 223 #[.val (.int x0), .val (.int x1), .val (.int x2), .val (.int x3), .val (.int x4), .val (.ref b1), .val (.ref b9), .val (.ref b17), .val (.int ((x1 &&& (2147483647 : Int32)) % (5 : Int32))), .val (.int ((x3 &&& (2147483647 : Int32)) % (5 : Int32))), .val (.int (0 : Int32)), .val (.int (1 : Int32)), .val (.ref b125), .val (.ref b134), .val (.int ((x4 &&& (2147483647 : Int32)) % (3 : Int32))), .val (.ref b9), .val (.int (0 : Int32)), .val (.int (0 : Int32)), .val (.int (1 : Int32))] [(.int (1 : Int32))])) _
          refine own_go (fun t_ k_ => XS.ifNo X167.here hx rfl (hb hby at_223) rfl ((if0 _ _).trans (feq (show ¬ ((1 : Int32) = (0 : Int32)) from by decide)).1) k_) ?_
          show own_Goes p e below (T167.setTop (mkF m 226 #[.val (.int x0), .val (.int x1), .val (.int x2), .val (.int x3), .val (.int x4), .val (.ref b1), .val (.ref b9), .val (.ref b17), .val (.int ((x1 &&& (2147483647 : Int32)) % (5 : Int32))), .val (.int ((x3 &&& (2147483647 : Int32)) % (5 : Int32))), .val (.int (0 : Int32)), .val (.int (1 : Int32)), .val (.ref b125), .val (.ref b134), .val (.int ((x4 &&& (2147483647 : Int32)) % (3 : Int32))), .val (.ref b9), .val (.int (0 : Int32)), .val (.int (0 : Int32)), .val (.int (1 : Int32))] [])) _
          refine own_go (fun t_ k_ => XS.iconst X167.here hx rfl (hb hby at_226) k_) ?_
          show own_Goes p e below (T167.setTop (mkF m 227 #[.val (.int x0), .val (.int x1), .val (.int x2), .val (.int x3), .val (.int x4), .val (.ref b1), .val (.ref b9), .val (.ref b17), .val (.int ((x1 &&& (2147483647 : Int32)) % (5 : Int32))), .val (.int ((x3 &&& (2147483647 : Int32)) % (5 : Int32))), .val (.int (0 : Int32)), .val (.int (1 : Int32)), .val (.ref b125), .val (.ref b134), .val (.int ((x4 &&& (2147483647 : Int32)) % (3 : Int32))), .val (.ref b9), .val (.int (0 : Int32)), .val (.int (0 : Int32)), .val (.int (1 : Int32))] [(.int (1 : Int32))])) _
          refine own_go (fun t_ k_ => XS.goto X167.here hx rfl (pc0 := 227) (pc' := 231) rfl (hb hby at_227) (by decide) (by decide) k_) ?_
          show own_Goes p e below (T167.setTop (mkF m 231 #[.val (.int x0), .val (.int x1), .val (.int x2), .val (.int x3), .val (.int x4), .val (.ref b1), .val (.ref b9), .val (.ref b17), .val (.int ((x1 &&& (2147483647 : Int32)) % (5 : Int32))), .val (.int ((x3 &&& (2147483647 : Int32)) % (5 : Int32))), .val (.int (0 : Int32)), .val (.int (1 : Int32)), .val (.ref b125), .val (.ref b134), .val (.int ((x4 &&& (2147483647 : Int32)) % (3 : Int32))), .val (.ref b9), .val (.int (0 : Int32)), .val (.int (0 : Int32)), .val (.int (1 : Int32))] [(.int (1 : Int32))])) _
          refine own_endW X167 hS140 (show _ ≤ T167.heap.size by rw [e167]; exact hk140) (v := (some (.int (1 : Int32)))) (fun h => by rw [hret] at h; cases h) hlk (by decide) (by decide) ?_ (fun fs hr => retOut X167 hx hret rfl (Or.inl ⟨rfl, Or.inr (Or.inl rfl), _, rfl⟩) (hb hby at_231) hr)
          show Q_rm0 Z x0 x1 x2 x3 x4 gw0 gw1 gw2 gw3 gw4 h0 n0 _ T167.heap _
          rw [e167]
          exact ⟨N167, trivial, rfl⟩
    · refine own_go (fun t_ k_ => XS.ifYes X26.here hx rfl (pc0 := 61) (pc' := 68) rfl (hb hby at_61) rfl ((if0 _ _).trans (feq hc124).2) (by decide) (by decide) k_) ?_
      show own_Goes p e below (T26.setTop (mkF m 68 #[.val (.int x0), .val (.int x1), .val (.int x2), .val (.int x3), .val (.int x4), .val (.ref b1), .val (.ref b9), .val (.ref b17), .val (.int ((x1 &&& (2147483647 : Int32)) % (5 : Int32))), .val (.int ((x3 &&& (2147483647 : Int32)) % (5 : Int32))), .val (.int (0 : Int32)), .unset, .unset, .unset, .unset, .unset, .unset, .unset, .unset] [])) _
      refine own_go (fun t_ k_ => XS.iconst X26.here hx rfl (hb hby at_68) k_) ?_
      show own_Goes p e below (T26.setTop (mkF m 69 #[.val (.int x0), .val (.int x1), .val (.int x2), .val (.int x3), .val (.int x4), .val (.ref b1), .val (.ref b9), .val (.ref b17), .val (.int ((x1 &&& (2147483647 : Int32)) % (5 : Int32))), .val (.int ((x3 &&& (2147483647 : Int32)) % (5 : Int32))), .val (.int (0 : Int32)), .unset, .unset, .unset, .unset, .unset, .unset, .unset, .unset] [(.int (0 : Int32))])) _
      refine own_go (fun t_ k_ => XS.istore X26.here hx rfl (hb hby at_69) rfl (l' := #[.val (.int x0), .val (.int x1), .val (.int x2), .val (.int x3), .val (.int x4), .val (.ref b1), .val (.ref b9), .val (.ref b17), .val (.int ((x1 &&& (2147483647 : Int32)) % (5 : Int32))), .val (.int ((x3 &&& (2147483647 : Int32)) % (5 : Int32))), .val (.int (0 : Int32)), .val (.int (0 : Int32)), .unset, .unset, .unset, .unset, .unset, .unset, .unset]) rfl k_) ?_
      show own_Goes p e below (T26.setTop (mkF m 71 #[.val (.int x0), .val (.int x1), .val (.int x2), .val (.int x3), .val (.int x4), .val (.ref b1), .val (.ref b9), .val (.ref b17), .val (.int ((x1 &&& (2147483647 : Int32)) % (5 : Int32))), .val (.int ((x3 &&& (2147483647 : Int32)) % (5 : Int32))), .val (.int (0 : Int32)), .val (.int (0 : Int32)), .unset, .unset, .unset, .unset, .unset, .unset, .unset] [])) _
      obtain ⟨T168, h168, X168, e168, E168, A168, D168, -, st168⟩ := newO X26 hx hZ22 hown22 (hw _ (List.mem_of_getElem? (i := 46) rfl)) (hw _ (List.mem_of_getElem? (i := 47) rfl)) (hw _ (List.mem_of_getElem? (i := 48) rfl)) e26 (g := (mkF m 71 #[.val (.int x0), .val (.int x1), .val (.int x2), .val (.int x3), .val (.int x4), .val (.ref b1), .val (.ref b9), .val (.ref b17), .val (.int ((x1 &&& (2147483647 : Int32)) % (5 : Int32))), .val (.int ((x3 &&& (2147483647 : Int32)) % (5 : Int32))), .val (.int (0 : Int32)), .val (.int (0 : Int32)), .unset, .unset, .unset, .unset, .unset, .unset, .unset] [])) rfl (hb hby at_71) (by decide) (by decide)
      obtain ⟨b168, g168⟩ : ∃ z, z = h22.size := ⟨_, rfl⟩
      rw [← g168] at A168 D168 st168
      refine own_go st168 ?_
      have O169 := O23.ext E168
      have sz170 : h22.size ≤ h168.size := E168.1
      have hk171 := Nat.le_trans hk22 E168.1
      have l168 : b168 < h168.size := A168.lt
      have F168_process : Fld Z h168 b168 "com/example/breach_or_proof/breachorproof/analysis/PathStep" "process" "Lcom/example/breach_or_proof/breachorproof/Process;" .null := D168 (Or.inr (hw _ (List.mem_of_getElem? (i := 64) rfl))) (ty := (.object "com/example/breach_or_proof/breachorproof/Process")) (by decide)
      have F168_branch : Fld Z h168 b168 "com/example/breach_or_proof/breachorproof/analysis/PathStep" "branch" "Lcom/example/breach_or_proof/breachorproof/analysis/PathStep$Branch;" .null := D168 (Or.inr (hw _ (List.mem_of_getElem? (i := 69) rfl))) (ty := (.object "com/example/breach_or_proof/breachorproof/analysis/PathStep$Branch")) (by decide)
      show own_Goes p e below (T168.setTop (mkF m 74 #[.val (.int x0), .val (.int x1), .val (.int x2), .val (.int x3), .val (.int x4), .val (.ref b1), .val (.ref b9), .val (.ref b17), .val (.int ((x1 &&& (2147483647 : Int32)) % (5 : Int32))), .val (.int ((x3 &&& (2147483647 : Int32)) % (5 : Int32))), .val (.int (0 : Int32)), .val (.int (0 : Int32)), .unset, .unset, .unset, .unset, .unset, .unset, .unset] [(.ref b168)])) _
      refine own_go (fun t_ k_ => XS.dup X168.here hx rfl (hb hby at_74) rfl rfl k_) ?_
      show own_Goes p e below (T168.setTop (mkF m 75 #[.val (.int x0), .val (.int x1), .val (.int x2), .val (.int x3), .val (.int x4), .val (.ref b1), .val (.ref b9), .val (.ref b17), .val (.int ((x1 &&& (2147483647 : Int32)) % (5 : Int32))), .val (.int ((x3 &&& (2147483647 : Int32)) % (5 : Int32))), .val (.int (0 : Int32)), .val (.int (0 : Int32)), .unset, .unset, .unset, .unset, .unset, .unset, .unset] [(.ref b168), (.ref b168)])) _
      refine own_go (fun t_ k_ => XS.iload X168.here hx rfl (hb hby at_75) rfl k_) ?_
      show own_Goes p e below (T168.setTop (mkF m 77 #[.val (.int x0), .val (.int x1), .val (.int x2), .val (.int x3), .val (.int x4), .val (.ref b1), .val (.ref b9), .val (.ref b17), .val (.int ((x1 &&& (2147483647 : Int32)) % (5 : Int32))), .val (.int ((x3 &&& (2147483647 : Int32)) % (5 : Int32))), .val (.int (0 : Int32)), .val (.int (0 : Int32)), .unset, .unset, .unset, .unset, .unset, .unset, .unset] [(.int (0 : Int32)), (.ref b168), (.ref b168)])) _
      refine own_go (fun t_ k_ => XS.ifYes X168.here hx rfl (pc0 := 77) (pc' := 85) rfl (hb hby at_77) rfl ((if0 _ _).trans (teq (show ((0 : Int32) = (0 : Int32)) from by decide)).1) (by decide) (by decide) k_) ?_
      show own_Goes p e below (T168.setTop (mkF m 85 #[.val (.int x0), .val (.int x1), .val (.int x2), .val (.int x3), .val (.int x4), .val (.ref b1), .val (.ref b9), .val (.ref b17), .val (.int ((x1 &&& (2147483647 : Int32)) % (5 : Int32))), .val (.int ((x3 &&& (2147483647 : Int32)) % (5 : Int32))), .val (.int (0 : Int32)), .val (.int (0 : Int32)), .unset, .unset, .unset, .unset, .unset, .unset, .unset] [(.ref b168), (.ref b168)])) _
      refine own_go (fun t_ k_ => XS.aload X168.here hx rfl (hb hby at_85) rfl rfl k_) ?_
      show own_Goes p e below (T168.setTop (mkF m 87 #[.val (.int x0), .val (.int x1), .val (.int x2), .val (.int x3), .val (.int x4), .val (.ref b1), .val (.ref b9), .val (.ref b17), .val (.int ((x1 &&& (2147483647 : Int32)) % (5 : Int32))), .val (.int ((x3 &&& (2147483647 : Int32)) % (5 : Int32))), .val (.int (0 : Int32)), .val (.int (0 : Int32)), .unset, .unset, .unset, .unset, .unset, .unset, .unset] [(.ref b17), (.ref b168), (.ref b168)])) _
      refine own_go (fun t_ k_ => XS.iload X168.here hx rfl (hb hby at_87) rfl k_) ?_
      show own_Goes p e below (T168.setTop (mkF m 89 #[.val (.int x0), .val (.int x1), .val (.int x2), .val (.int x3), .val (.int x4), .val (.ref b1), .val (.ref b9), .val (.ref b17), .val (.int ((x1 &&& (2147483647 : Int32)) % (5 : Int32))), .val (.int ((x3 &&& (2147483647 : Int32)) % (5 : Int32))), .val (.int (0 : Int32)), .val (.int (0 : Int32)), .unset, .unset, .unset, .unset, .unset, .unset, .unset] [(.int ((x1 &&& (2147483647 : Int32)) % (5 : Int32))), (.ref b17), (.ref b168), (.ref b168)])) _
      obtain ⟨_, _, ⟨T172, L172, k172, n172⟩, -, X172, ⟨Lc172, hQ172, l172, y172, z172⟩, st172⟩ := Jvm.LawKit.callS X168 hx (y := own_m10) hown22 (mvT hZ22 (hw _ (List.mem_of_getElem? (i := 49) rfl))) (mvT hZ22 (hw _ (List.mem_of_getElem? (i := 50) rfl))) (mvT hZ22 (hw _ (List.mem_of_getElem? (i := 43) rfl))) (mvT hZ22 (hw _ (List.mem_of_getElem? (i := 51) rfl))) (by decide) (backOf (W := 3) (own_branch l Z a0 hw [] ((x1 &&& (2147483647 : Int32)) % (5 : Int32)) h168 n0 O169 gw0 gw1 gw2 gw3 gw4 G (show 0 ≤ ((x1 &&& (2147483647 : Int32)) % (5 : Int32)).toInt ∧ ((x1 &&& (2147483647 : Int32)) % (5 : Int32)).toInt < 5 from (own_rng _))) hZ22 (hw _ (List.mem_of_getElem? (i := 51) rfl)) (hw _ (List.mem_of_getElem? (i := 43) rfl)) (by decide) (by decide)) (g := (mkF m 89 #[.val (.int x0), .val (.int x1), .val (.int x2), .val (.int x3), .val (.int x4), .val (.ref b1), .val (.ref b9), .val (.ref b17), .val (.int ((x1 &&& (2147483647 : Int32)) % (5 : Int32))), .val (.int ((x3 &&& (2147483647 : Int32)) % (5 : Int32))), .val (.int (0 : Int32)), .val (.int (0 : Int32)), .unset, .unset, .unset, .unset, .unset, .unset, .unset] [(.int ((x1 &&& (2147483647 : Int32)) % (5 : Int32))), (.ref b17), (.ref b168), (.ref b168)])) rfl (by rw [hml]; rfl) (argsL := [(.int ((x1 &&& (2147483647 : Int32)) % (5 : Int32)))]) (rest := [(.ref b17), (.ref b168), (.ref b168)]) (lenOf own_pd_9 rfl) rfl (by show 2 * 0 + _ ≤ _; exact Nat.le_of_eq rfl) (hb hby at_89) (fun _ _ => ⟨rfl, e168, (by decide : 8 + 0 ≤ _), (by decide : 78 + 0 ≤ _)⟩)
      dsimp only [Pt.U, Pt.locs, Pt.cells, Pt.slots] at X172 l172 y172 z172 st172 hQ172
      subst l172 y172 z172
      obtain ⟨Nc172, e172, r_172, rfl, c172_0, c172_1, c172_2⟩ := hQ172
      rw [e172] at c172_0
      have N172 := Fr.app N26 Nc172
      have ltc172_0 : r_172 < h168.size := c172_0.lt
      refine own_go st172 ?_
      show own_Goes p e below (T172.setTop (mkF m 92 #[.val (.int x0), .val (.int x1), .val (.int x2), .val (.int x3), .val (.int x4), .val (.ref b1), .val (.ref b9), .val (.ref b17), .val (.int ((x1 &&& (2147483647 : Int32)) % (5 : Int32))), .val (.int ((x3 &&& (2147483647 : Int32)) % (5 : Int32))), .val (.int (0 : Int32)), .val (.int (0 : Int32)), .unset, .unset, .unset, .unset, .unset, .unset, .unset] [(.ref r_172), (.ref b17), (.ref b168), (.ref b168)])) _
      have f173 := ((A17.keep Kc22).ext E168)
      obtain ⟨_, _, ⟨T174, L174, k174, n174⟩, -, X174, hS174, gr174, ⟨Lc174, hQ174, l174, y174, z174⟩, st174⟩ := X172.specialBackS hx (y := own_m12) rfl hown22 (mvT hZ22 (hw _ (List.mem_of_getElem? (i := 55) rfl))) (mvT hZ22 (hw _ (List.mem_of_getElem? (i := 56) rfl))) (mvT hZ22 (hw _ (List.mem_of_getElem? (i := 57) rfl))) (by decide) (backOfS (W := 1) (own_psInit l Z a0 hw [] b168 b17 r_172 h168 n0 O169 A168 F168_process F168_branch f173 c172_0 (show n0 ≤ b168 by first | assumption | omega | decide)) hZ22 (hw _ (List.mem_of_getElem? (i := 57) rfl)) (hw _ (List.mem_of_getElem? (i := 48) rfl)) (by decide) (by decide)) (g := (mkF m 92 #[.val (.int x0), .val (.int x1), .val (.int x2), .val (.int x3), .val (.int x4), .val (.ref b1), .val (.ref b9), .val (.ref b17), .val (.int ((x1 &&& (2147483647 : Int32)) % (5 : Int32))), .val (.int ((x3 &&& (2147483647 : Int32)) % (5 : Int32))), .val (.int (0 : Int32)), .val (.int (0 : Int32)), .unset, .unset, .unset, .unset, .unset, .unset, .unset] [(.ref r_172), (.ref b17), (.ref b168), (.ref b168)])) rfl (by rw [hml]; rfl) (Steps.refl _) (a := b168) (argsL := [(.ref b17), (.ref r_172)]) (rest := [(.ref b168)]) (lenOf own_pd_11 rfl) rfl (by show 2 * 0 + _ ≤ _; exact Nat.le_of_eq rfl) (hb hby at_92) (fun _ _ => ⟨rfl, e172, (by decide : 8 + 4 ≤ _), (by decide : 78 + 60 ≤ _)⟩)
      dsimp only [Pt.U, Pt.locs, Pt.cells, Pt.slots] at X174 l174 y174 z174 st174 hQ174 hS174 gr174
      subst l174 y174 z174
      obtain ⟨h174, e174⟩ : ∃ z, T174.heap = z := ⟨_, rfl⟩
      rw [e174] at hQ174 hS174 gr174
      obtain ⟨Nc174, Kc174, rfl, c174_0, c174_1⟩ := hQ174
      obtain ⟨X174, hS174, hZ174, hown174⟩ := rebS (own := "com/example/breach_or_proof/breachorproof/analysis/PathStepEqualsPinLaw") hS22 (show _ ≤ T172.heap.size by rw [e172]; exact hk171) X174 hS174 gr174 hZ22 hown22
      have hk174 : h174.size ≤ h174.size := Nat.le_refl _
      have N174 := Fr.app N172 Nc174
      have O175 := O169.keep Kc174 (allS (show n0 ≤ b168 by omega) all0)
      have sz176 : h168.size ≤ h174.size := Kc174.1
      refine own_goS st174 ?_
      show own_Goes p e below (T174.setTop (mkF m 95 #[.val (.int x0), .val (.int x1), .val (.int x2), .val (.int x3), .val (.int x4), .val (.ref b1), .val (.ref b9), .val (.ref b17), .val (.int ((x1 &&& (2147483647 : Int32)) % (5 : Int32))), .val (.int ((x3 &&& (2147483647 : Int32)) % (5 : Int32))), .val (.int (0 : Int32)), .val (.int (0 : Int32)), .unset, .unset, .unset, .unset, .unset, .unset, .unset] [(.ref b168)])) _
      refine own_go (fun t_ k_ => XS.astore X174.here hx rfl (hb hby at_95) rfl rfl (l' := #[.val (.int x0), .val (.int x1), .val (.int x2), .val (.int x3), .val (.int x4), .val (.ref b1), .val (.ref b9), .val (.ref b17), .val (.int ((x1 &&& (2147483647 : Int32)) % (5 : Int32))), .val (.int ((x3 &&& (2147483647 : Int32)) % (5 : Int32))), .val (.int (0 : Int32)), .val (.int (0 : Int32)), .val (.ref b168), .unset, .unset, .unset, .unset, .unset, .unset]) rfl k_) ?_
      show own_Goes p e below (T174.setTop (mkF m 97 #[.val (.int x0), .val (.int x1), .val (.int x2), .val (.int x3), .val (.int x4), .val (.ref b1), .val (.ref b9), .val (.ref b17), .val (.int ((x1 &&& (2147483647 : Int32)) % (5 : Int32))), .val (.int ((x3 &&& (2147483647 : Int32)) % (5 : Int32))), .val (.int (0 : Int32)), .val (.int (0 : Int32)), .val (.ref b168), .unset, .unset, .unset, .unset, .unset, .unset] [])) _
      obtain ⟨T177, h177, X177, e177, E177, A177, D177, -, st177⟩ := newO X174 hx hZ174 hown174 (hw _ (List.mem_of_getElem? (i := 46) rfl)) (hw _ (List.mem_of_getElem? (i := 47) rfl)) (hw _ (List.mem_of_getElem? (i := 48) rfl)) e174 (g := (mkF m 97 #[.val (.int x0), .val (.int x1), .val (.int x2), .val (.int x3), .val (.int x4), .val (.ref b1), .val (.ref b9), .val (.ref b17), .val (.int ((x1 &&& (2147483647 : Int32)) % (5 : Int32))), .val (.int ((x3 &&& (2147483647 : Int32)) % (5 : Int32))), .val (.int (0 : Int32)), .val (.int (0 : Int32)), .val (.ref b168), .unset, .unset, .unset, .unset, .unset, .unset] [])) rfl (hb hby at_97) (by decide) (by decide)
      obtain ⟨b177, g177⟩ : ∃ z, z = h174.size := ⟨_, rfl⟩
      rw [← g177] at A177 D177 st177
      refine own_go st177 ?_
      have O178 := O175.ext E177
      have sz179 : h174.size ≤ h177.size := E177.1
      have hk180 := Nat.le_trans hk174 E177.1
      have l177 : b177 < h177.size := A177.lt
      have F177_process : Fld Z h177 b177 "com/example/breach_or_proof/breachorproof/analysis/PathStep" "process" "Lcom/example/breach_or_proof/breachorproof/Process;" .null := D177 (Or.inr (hw _ (List.mem_of_getElem? (i := 64) rfl))) (ty := (.object "com/example/breach_or_proof/breachorproof/Process")) (by decide)
      have F177_branch : Fld Z h177 b177 "com/example/breach_or_proof/breachorproof/analysis/PathStep" "branch" "Lcom/example/breach_or_proof/breachorproof/analysis/PathStep$Branch;" .null := D177 (Or.inr (hw _ (List.mem_of_getElem? (i := 69) rfl))) (ty := (.object "com/example/breach_or_proof/breachorproof/analysis/PathStep$Branch")) (by decide)
      show own_Goes p e below (T177.setTop (mkF m 100 #[.val (.int x0), .val (.int x1), .val (.int x2), .val (.int x3), .val (.int x4), .val (.ref b1), .val (.ref b9), .val (.ref b17), .val (.int ((x1 &&& (2147483647 : Int32)) % (5 : Int32))), .val (.int ((x3 &&& (2147483647 : Int32)) % (5 : Int32))), .val (.int (0 : Int32)), .val (.int (0 : Int32)), .val (.ref b168), .unset, .unset, .unset, .unset, .unset, .unset] [(.ref b177)])) _
      refine own_go (fun t_ k_ => XS.dup X177.here hx rfl (hb hby at_100) rfl rfl k_) ?_
      show own_Goes p e below (T177.setTop (mkF m 101 #[.val (.int x0), .val (.int x1), .val (.int x2), .val (.int x3), .val (.int x4), .val (.ref b1), .val (.ref b9), .val (.ref b17), .val (.int ((x1 &&& (2147483647 : Int32)) % (5 : Int32))), .val (.int ((x3 &&& (2147483647 : Int32)) % (5 : Int32))), .val (.int (0 : Int32)), .val (.int (0 : Int32)), .val (.ref b168), .unset, .unset, .unset, .unset, .unset, .unset] [(.ref b177), (.ref b177)])) _
      refine own_go (fun t_ k_ => XS.iload X177.here hx rfl (hb hby at_101) rfl k_) ?_
      show own_Goes p e below (T177.setTop (mkF m 103 #[.val (.int x0), .val (.int x1), .val (.int x2), .val (.int x3), .val (.int x4), .val (.ref b1), .val (.ref b9), .val (.ref b17), .val (.int ((x1 &&& (2147483647 : Int32)) % (5 : Int32))), .val (.int ((x3 &&& (2147483647 : Int32)) % (5 : Int32))), .val (.int (0 : Int32)), .val (.int (0 : Int32)), .val (.ref b168), .unset, .unset, .unset, .unset, .unset, .unset] [(.int (0 : Int32)), (.ref b177), (.ref b177)])) _
      refine own_go (fun t_ k_ => XS.ifYes X177.here hx rfl (pc0 := 103) (pc' := 111) rfl (hb hby at_103) rfl ((if0 _ _).trans (teq (show ((0 : Int32) = (0 : Int32)) from by decide)).1) (by decide) (by decide) k_) ?_
      show own_Goes p e below (T177.setTop (mkF m 111 #[.val (.int x0), .val (.int x1), .val (.int x2), .val (.int x3), .val (.int x4), .val (.ref b1), .val (.ref b9), .val (.ref b17), .val (.int ((x1 &&& (2147483647 : Int32)) % (5 : Int32))), .val (.int ((x3 &&& (2147483647 : Int32)) % (5 : Int32))), .val (.int (0 : Int32)), .val (.int (0 : Int32)), .val (.ref b168), .unset, .unset, .unset, .unset, .unset, .unset] [(.ref b177), (.ref b177)])) _
      refine own_go (fun t_ k_ => XS.aload X177.here hx rfl (hb hby at_111) rfl rfl k_) ?_
      show own_Goes p e below (T177.setTop (mkF m 113 #[.val (.int x0), .val (.int x1), .val (.int x2), .val (.int x3), .val (.int x4), .val (.ref b1), .val (.ref b9), .val (.ref b17), .val (.int ((x1 &&& (2147483647 : Int32)) % (5 : Int32))), .val (.int ((x3 &&& (2147483647 : Int32)) % (5 : Int32))), .val (.int (0 : Int32)), .val (.int (0 : Int32)), .val (.ref b168), .unset, .unset, .unset, .unset, .unset, .unset] [(.ref b17), (.ref b177), (.ref b177)])) _
      refine own_go (fun t_ k_ => XS.iload X177.here hx rfl (hb hby at_113) rfl k_) ?_
      show own_Goes p e below (T177.setTop (mkF m 115 #[.val (.int x0), .val (.int x1), .val (.int x2), .val (.int x3), .val (.int x4), .val (.ref b1), .val (.ref b9), .val (.ref b17), .val (.int ((x1 &&& (2147483647 : Int32)) % (5 : Int32))), .val (.int ((x3 &&& (2147483647 : Int32)) % (5 : Int32))), .val (.int (0 : Int32)), .val (.int (0 : Int32)), .val (.ref b168), .unset, .unset, .unset, .unset, .unset, .unset] [(.int ((x3 &&& (2147483647 : Int32)) % (5 : Int32))), (.ref b17), (.ref b177), (.ref b177)])) _
      obtain ⟨_, _, ⟨T181, L181, k181, n181⟩, -, X181, ⟨Lc181, hQ181, l181, y181, z181⟩, st181⟩ := Jvm.LawKit.callS X177 hx (y := own_m10) hown174 (mvT hZ174 (hw _ (List.mem_of_getElem? (i := 49) rfl))) (mvT hZ174 (hw _ (List.mem_of_getElem? (i := 50) rfl))) (mvT hZ174 (hw _ (List.mem_of_getElem? (i := 43) rfl))) (mvT hZ174 (hw _ (List.mem_of_getElem? (i := 51) rfl))) (by decide) (backOf (W := 3) (own_branch l Z a0 hw [] ((x3 &&& (2147483647 : Int32)) % (5 : Int32)) h177 n0 O178 gw0 gw1 gw2 gw3 gw4 G (show 0 ≤ ((x3 &&& (2147483647 : Int32)) % (5 : Int32)).toInt ∧ ((x3 &&& (2147483647 : Int32)) % (5 : Int32)).toInt < 5 from (own_rng _))) hZ174 (hw _ (List.mem_of_getElem? (i := 51) rfl)) (hw _ (List.mem_of_getElem? (i := 43) rfl)) (by decide) (by decide)) (g := (mkF m 115 #[.val (.int x0), .val (.int x1), .val (.int x2), .val (.int x3), .val (.int x4), .val (.ref b1), .val (.ref b9), .val (.ref b17), .val (.int ((x1 &&& (2147483647 : Int32)) % (5 : Int32))), .val (.int ((x3 &&& (2147483647 : Int32)) % (5 : Int32))), .val (.int (0 : Int32)), .val (.int (0 : Int32)), .val (.ref b168), .unset, .unset, .unset, .unset, .unset, .unset] [(.int ((x3 &&& (2147483647 : Int32)) % (5 : Int32))), (.ref b17), (.ref b177), (.ref b177)])) rfl (by rw [hml]; rfl) (argsL := [(.int ((x3 &&& (2147483647 : Int32)) % (5 : Int32)))]) (rest := [(.ref b17), (.ref b177), (.ref b177)]) (lenOf own_pd_9 rfl) rfl (by show 2 * 0 + _ ≤ _; exact Nat.le_of_eq rfl) (hb hby at_115) (fun _ _ => ⟨rfl, e177, (by decide : 13 + 0 ≤ _), (by decide : 140 + 0 ≤ _)⟩)
      dsimp only [Pt.U, Pt.locs, Pt.cells, Pt.slots] at X181 l181 y181 z181 st181 hQ181
      subst l181 y181 z181
      obtain ⟨Nc181, e181, r_181, rfl, c181_0, c181_1, c181_2⟩ := hQ181
      rw [e181] at c181_0
      have N181 := Fr.app N174 Nc181
      have ltc181_0 : r_181 < h177.size := c181_0.lt
      refine own_go st181 ?_
      show own_Goes p e below (T181.setTop (mkF m 118 #[.val (.int x0), .val (.int x1), .val (.int x2), .val (.int x3), .val (.int x4), .val (.ref b1), .val (.ref b9), .val (.ref b17), .val (.int ((x1 &&& (2147483647 : Int32)) % (5 : Int32))), .val (.int ((x3 &&& (2147483647 : Int32)) % (5 : Int32))), .val (.int (0 : Int32)), .val (.int (0 : Int32)), .val (.ref b168), .unset, .unset, .unset, .unset, .unset, .unset] [(.ref r_181), (.ref b17), (.ref b177), (.ref b177)])) _
      have f182 := ((f173.keep Kc174).ext E177)
      obtain ⟨_, _, ⟨T183, L183, k183, n183⟩, -, X183, hS183, gr183, ⟨Lc183, hQ183, l183, y183, z183⟩, st183⟩ := X181.specialBackS hx (y := own_m12) rfl hown174 (mvT hZ174 (hw _ (List.mem_of_getElem? (i := 55) rfl))) (mvT hZ174 (hw _ (List.mem_of_getElem? (i := 56) rfl))) (mvT hZ174 (hw _ (List.mem_of_getElem? (i := 57) rfl))) (by decide) (backOfS (W := 1) (own_psInit l Z a0 hw [] b177 b17 r_181 h177 n0 O178 A177 F177_process F177_branch f182 c181_0 (show n0 ≤ b177 by first | assumption | omega | decide)) hZ174 (hw _ (List.mem_of_getElem? (i := 57) rfl)) (hw _ (List.mem_of_getElem? (i := 48) rfl)) (by decide) (by decide)) (g := (mkF m 118 #[.val (.int x0), .val (.int x1), .val (.int x2), .val (.int x3), .val (.int x4), .val (.ref b1), .val (.ref b9), .val (.ref b17), .val (.int ((x1 &&& (2147483647 : Int32)) % (5 : Int32))), .val (.int ((x3 &&& (2147483647 : Int32)) % (5 : Int32))), .val (.int (0 : Int32)), .val (.int (0 : Int32)), .val (.ref b168), .unset, .unset, .unset, .unset, .unset, .unset] [(.ref r_181), (.ref b17), (.ref b177), (.ref b177)])) rfl (by rw [hml]; rfl) (Steps.refl _) (a := b177) (argsL := [(.ref b17), (.ref r_181)]) (rest := [(.ref b177)]) (lenOf own_pd_11 rfl) rfl (by show 2 * 0 + _ ≤ _; exact Nat.le_of_eq rfl) (hb hby at_118) (fun _ _ => ⟨rfl, e181, (by decide : 13 + 4 ≤ _), (by decide : 140 + 60 ≤ _)⟩)
      dsimp only [Pt.U, Pt.locs, Pt.cells, Pt.slots] at X183 l183 y183 z183 st183 hQ183 hS183 gr183
      subst l183 y183 z183
      obtain ⟨h183, e183⟩ : ∃ z, T183.heap = z := ⟨_, rfl⟩
      rw [e183] at hQ183 hS183 gr183
      obtain ⟨Nc183, Kc183, rfl, c183_0, c183_1⟩ := hQ183
      obtain ⟨X183, hS183, hZ183, hown183⟩ := rebS (own := "com/example/breach_or_proof/breachorproof/analysis/PathStepEqualsPinLaw") hS174 (show _ ≤ T181.heap.size by rw [e181]; exact hk180) X183 hS183 gr183 hZ174 hown174
      have hk183 : h183.size ≤ h183.size := Nat.le_refl _
      have N183 := Fr.app N181 Nc183
      have O184 := O178.keep Kc183 (allS (show n0 ≤ b177 by omega) all0)
      have sz185 : h177.size ≤ h183.size := Kc183.1
      refine own_goS st183 ?_
      show own_Goes p e below (T183.setTop (mkF m 121 #[.val (.int x0), .val (.int x1), .val (.int x2), .val (.int x3), .val (.int x4), .val (.ref b1), .val (.ref b9), .val (.ref b17), .val (.int ((x1 &&& (2147483647 : Int32)) % (5 : Int32))), .val (.int ((x3 &&& (2147483647 : Int32)) % (5 : Int32))), .val (.int (0 : Int32)), .val (.int (0 : Int32)), .val (.ref b168), .unset, .unset, .unset, .unset, .unset, .unset] [(.ref b177)])) _
      refine own_go (fun t_ k_ => XS.astore X183.here hx rfl (hb hby at_121) rfl rfl (l' := #[.val (.int x0), .val (.int x1), .val (.int x2), .val (.int x3), .val (.int x4), .val (.ref b1), .val (.ref b9), .val (.ref b17), .val (.int ((x1 &&& (2147483647 : Int32)) % (5 : Int32))), .val (.int ((x3 &&& (2147483647 : Int32)) % (5 : Int32))), .val (.int (0 : Int32)), .val (.int (0 : Int32)), .val (.ref b168), .val (.ref b177), .unset, .unset, .unset, .unset, .unset]) rfl k_) ?_
      show own_Goes p e below (T183.setTop (mkF m 123 #[.val (.int x0), .val (.int x1), .val (.int x2), .val (.int x3), .val (.int x4), .val (.ref b1), .val (.ref b9), .val (.ref b17), .val (.int ((x1 &&& (2147483647 : Int32)) % (5 : Int32))), .val (.int ((x3 &&& (2147483647 : Int32)) % (5 : Int32))), .val (.int (0 : Int32)), .val (.int (0 : Int32)), .val (.ref b168), .val (.ref b177), .unset, .unset, .unset, .unset, .unset] [])) _
      refine own_go (fun t_ k_ => XS.iload X183.here hx rfl (hb hby at_123) rfl k_) ?_
      show own_Goes p e below (T183.setTop (mkF m 125 #[.val (.int x0), .val (.int x1), .val (.int x2), .val (.int x3), .val (.int x4), .val (.ref b1), .val (.ref b9), .val (.ref b17), .val (.int ((x1 &&& (2147483647 : Int32)) % (5 : Int32))), .val (.int ((x3 &&& (2147483647 : Int32)) % (5 : Int32))), .val (.int (0 : Int32)), .val (.int (0 : Int32)), .val (.ref b168), .val (.ref b177), .unset, .unset, .unset, .unset, .unset] [(.int x4)])) _
      refine own_go (fun t_ k_ => Jvm.Stand.ldcI X183 hx hown183 (mv hZ183 (hw _ (List.mem_of_getElem? (i := 45) rfl))) rfl (hb hby at_125) k_) ?_
      show own_Goes p e below (T183.setTop (mkF m 127 #[.val (.int x0), .val (.int x1), .val (.int x2), .val (.int x3), .val (.int x4), .val (.ref b1), .val (.ref b9), .val (.ref b17), .val (.int ((x1 &&& (2147483647 : Int32)) % (5 : Int32))), .val (.int ((x3 &&& (2147483647 : Int32)) % (5 : Int32))), .val (.int (0 : Int32)), .val (.int (0 : Int32)), .val (.ref b168), .val (.ref b177), .unset, .unset, .unset, .unset, .unset] [(.int (2147483647 : Int32)), (.int x4)])) _
      refine own_go (fun t_ k_ => XS.iand X183.here hx rfl (hb hby at_127) rfl k_) ?_
      show own_Goes p e below (T183.setTop (mkF m 128 #[.val (.int x0), .val (.int x1), .val (.int x2), .val (.int x3), .val (.int x4), .val (.ref b1), .val (.ref b9), .val (.ref b17), .val (.int ((x1 &&& (2147483647 : Int32)) % (5 : Int32))), .val (.int ((x3 &&& (2147483647 : Int32)) % (5 : Int32))), .val (.int (0 : Int32)), .val (.int (0 : Int32)), .val (.ref b168), .val (.ref b177), .unset, .unset, .unset, .unset, .unset] [(.int (x4 &&& (2147483647 : Int32)))])) _
      refine own_go (fun t_ k_ => XS.iconst X183.here hx rfl (hb hby at_128) k_) ?_
      show own_Goes p e below (T183.setTop (mkF m 129 #[.val (.int x0), .val (.int x1), .val (.int x2), .val (.int x3), .val (.int x4), .val (.ref b1), .val (.ref b9), .val (.ref b17), .val (.int ((x1 &&& (2147483647 : Int32)) % (5 : Int32))), .val (.int ((x3 &&& (2147483647 : Int32)) % (5 : Int32))), .val (.int (0 : Int32)), .val (.int (0 : Int32)), .val (.ref b168), .val (.ref b177), .unset, .unset, .unset, .unset, .unset] [(.int (3 : Int32)), (.int (x4 &&& (2147483647 : Int32)))])) _
      refine own_go (fun t_ k_ => iremM X183 hx rfl (hb hby at_129) rfl (by decide) k_) ?_
      show own_Goes p e below (T183.setTop (mkF m 130 #[.val (.int x0), .val (.int x1), .val (.int x2), .val (.int x3), .val (.int x4), .val (.ref b1), .val (.ref b9), .val (.ref b17), .val (.int ((x1 &&& (2147483647 : Int32)) % (5 : Int32))), .val (.int ((x3 &&& (2147483647 : Int32)) % (5 : Int32))), .val (.int (0 : Int32)), .val (.int (0 : Int32)), .val (.ref b168), .val (.ref b177), .unset, .unset, .unset, .unset, .unset] [(.int ((x4 &&& (2147483647 : Int32)) % (3 : Int32)))])) _
      refine own_go (fun t_ k_ => XS.istore X183.here hx rfl (hb hby at_130) rfl (l' := #[.val (.int x0), .val (.int x1), .val (.int x2), .val (.int x3), .val (.int x4), .val (.ref b1), .val (.ref b9), .val (.ref b17), .val (.int ((x1 &&& (2147483647 : Int32)) % (5 : Int32))), .val (.int ((x3 &&& (2147483647 : Int32)) % (5 : Int32))), .val (.int (0 : Int32)), .val (.int (0 : Int32)), .val (.ref b168), .val (.ref b177), .val (.int ((x4 &&& (2147483647 : Int32)) % (3 : Int32))), .unset, .unset, .unset, .unset]) rfl k_) ?_
      show own_Goes p e below (T183.setTop (mkF m 132 #[.val (.int x0), .val (.int x1), .val (.int x2), .val (.int x3), .val (.int x4), .val (.ref b1), .val (.ref b9), .val (.ref b17), .val (.int ((x1 &&& (2147483647 : Int32)) % (5 : Int32))), .val (.int ((x3 &&& (2147483647 : Int32)) % (5 : Int32))), .val (.int (0 : Int32)), .val (.int (0 : Int32)), .val (.ref b168), .val (.ref b177), .val (.int ((x4 &&& (2147483647 : Int32)) % (3 : Int32))), .unset, .unset, .unset, .unset] [])) _
      refine own_go (fun t_ k_ => XS.iload X183.here hx rfl (hb hby at_132) rfl k_) ?_
      show own_Goes p e below (T183.setTop (mkF m 134 #[.val (.int x0), .val (.int x1), .val (.int x2), .val (.int x3), .val (.int x4), .val (.ref b1), .val (.ref b9), .val (.ref b17), .val (.int ((x1 &&& (2147483647 : Int32)) % (5 : Int32))), .val (.int ((x3 &&& (2147483647 : Int32)) % (5 : Int32))), .val (.int (0 : Int32)), .val (.int (0 : Int32)), .val (.ref b168), .val (.ref b177), .val (.int ((x4 &&& (2147483647 : Int32)) % (3 : Int32))), .unset, .unset, .unset, .unset] [(.int ((x4 &&& (2147483647 : Int32)) % (3 : Int32)))])) _
      by_cases hc186 : ((x4 &&& (2147483647 : Int32)) % (3 : Int32)) = (0 : Int32)
      · refine own_go (fun t_ k_ => XS.ifNo X183.here hx rfl (hb hby at_134) rfl ((if0 _ _).trans (teq hc186).2) k_) ?_
        show own_Goes p e below (T183.setTop (mkF m 137 #[.val (.int x0), .val (.int x1), .val (.int x2), .val (.int x3), .val (.int x4), .val (.ref b1), .val (.ref b9), .val (.ref b17), .val (.int ((x1 &&& (2147483647 : Int32)) % (5 : Int32))), .val (.int ((x3 &&& (2147483647 : Int32)) % (5 : Int32))), .val (.int (0 : Int32)), .val (.int (0 : Int32)), .val (.ref b168), .val (.ref b177), .val (.int ((x4 &&& (2147483647 : Int32)) % (3 : Int32))), .unset, .unset, .unset, .unset] [])) _
        refine own_go (fun t_ k_ => XS.aload X183.here hx rfl (hb hby at_137) rfl rfl k_) ?_
        show own_Goes p e below (T183.setTop (mkF m 139 #[.val (.int x0), .val (.int x1), .val (.int x2), .val (.int x3), .val (.int x4), .val (.ref b1), .val (.ref b9), .val (.ref b17), .val (.int ((x1 &&& (2147483647 : Int32)) % (5 : Int32))), .val (.int ((x3 &&& (2147483647 : Int32)) % (5 : Int32))), .val (.int (0 : Int32)), .val (.int (0 : Int32)), .val (.ref b168), .val (.ref b177), .val (.int ((x4 &&& (2147483647 : Int32)) % (3 : Int32))), .unset, .unset, .unset, .unset] [(.ref b177)])) _
        refine own_go (fun t_ k_ => XS.astore X183.here hx rfl (hb hby at_139) rfl rfl (l' := #[.val (.int x0), .val (.int x1), .val (.int x2), .val (.int x3), .val (.int x4), .val (.ref b1), .val (.ref b9), .val (.ref b17), .val (.int ((x1 &&& (2147483647 : Int32)) % (5 : Int32))), .val (.int ((x3 &&& (2147483647 : Int32)) % (5 : Int32))), .val (.int (0 : Int32)), .val (.int (0 : Int32)), .val (.ref b168), .val (.ref b177), .val (.int ((x4 &&& (2147483647 : Int32)) % (3 : Int32))), .val (.ref b177), .unset, .unset, .unset]) rfl k_) ?_
        show own_Goes p e below (T183.setTop (mkF m 141 #[.val (.int x0), .val (.int x1), .val (.int x2), .val (.int x3), .val (.int x4), .val (.ref b1), .val (.ref b9), .val (.ref b17), .val (.int ((x1 &&& (2147483647 : Int32)) % (5 : Int32))), .val (.int ((x3 &&& (2147483647 : Int32)) % (5 : Int32))), .val (.int (0 : Int32)), .val (.int (0 : Int32)), .val (.ref b168), .val (.ref b177), .val (.int ((x4 &&& (2147483647 : Int32)) % (3 : Int32))), .val (.ref b177), .unset, .unset, .unset] [])) _
        refine own_go (fun t_ k_ => XS.goto X183.here hx rfl (pc0 := 141) (pc' := 170) rfl (hb hby at_141) (by decide) (by decide) k_) ?_
        show own_Goes p e below (T183.setTop (mkF m 170 #[.val (.int x0), .val (.int x1), .val (.int x2), .val (.int x3), .val (.int x4), .val (.ref b1), .val (.ref b9), .val (.ref b17), .val (.int ((x1 &&& (2147483647 : Int32)) % (5 : Int32))), .val (.int ((x3 &&& (2147483647 : Int32)) % (5 : Int32))), .val (.int (0 : Int32)), .val (.int (0 : Int32)), .val (.ref b168), .val (.ref b177), .val (.int ((x4 &&& (2147483647 : Int32)) % (3 : Int32))), .val (.ref b177), .unset, .unset, .unset] [])) _
        refine own_go (fun t_ k_ => XS.iload X183.here hx rfl (hb hby at_170) rfl k_) ?_
        show own_Goes p e below (T183.setTop (mkF m 172 #[.val (.int x0), .val (.int x1), .val (.int x2), .val (.int x3), .val (.int x4), .val (.ref b1), .val (.ref b9), .val (.ref b17), .val (.int ((x1 &&& (2147483647 : Int32)) % (5 : Int32))), .val (.int ((x3 &&& (2147483647 : Int32)) % (5 : Int32))), .val (.int (0 : Int32)), .val (.int (0 : Int32)), .val (.ref b168), .val (.ref b177), .val (.int ((x4 &&& (2147483647 : Int32)) % (3 : Int32))), .val (.ref b177), .unset, .unset, .unset] [(.int ((x4 &&& (2147483647 : Int32)) % (3 : Int32)))])) _
        refine own_go (fun t_ k_ => XS.ifNo X183.here hx rfl (hb hby at_172) rfl ((if0 _ _).trans (teq hc186).2) k_) ?_
        show own_Goes p e below (T183.setTop (mkF m 175 #[.val (.int x0), .val (.int x1), .val (.int x2), .val (.int x3), .val (.int x4), .val (.ref b1), .val (.ref b9), .val (.ref b17), .val (.int ((x1 &&& (2147483647 : Int32)) % (5 : Int32))), .val (.int ((x3 &&& (2147483647 : Int32)) % (5 : Int32))), .val (.int (0 : Int32)), .val (.int (0 : Int32)), .val (.ref b168), .val (.ref b177), .val (.int ((x4 &&& (2147483647 : Int32)) % (3 : Int32))), .val (.ref b177), .unset, .unset, .unset] [])) _
        refine own_go (fun t_ k_ => XS.iload X183.here hx rfl (hb hby at_175) rfl k_) ?_
        show own_Goes p e below (T183.setTop (mkF m 177 #[.val (.int x0), .val (.int x1), .val (.int x2), .val (.int x3), .val (.int x4), .val (.ref b1), .val (.ref b9), .val (.ref b17), .val (.int ((x1 &&& (2147483647 : Int32)) % (5 : Int32))), .val (.int ((x3 &&& (2147483647 : Int32)) % (5 : Int32))), .val (.int (0 : Int32)), .val (.int (0 : Int32)), .val (.ref b168), .val (.ref b177), .val (.int ((x4 &&& (2147483647 : Int32)) % (3 : Int32))), .val (.ref b177), .unset, .unset, .unset] [(.int (0 : Int32))])) _
        refine own_go (fun t_ k_ => XS.iload X183.here hx rfl (hb hby at_177) rfl k_) ?_
        show own_Goes p e below (T183.setTop (mkF m 179 #[.val (.int x0), .val (.int x1), .val (.int x2), .val (.int x3), .val (.int x4), .val (.ref b1), .val (.ref b9), .val (.ref b17), .val (.int ((x1 &&& (2147483647 : Int32)) % (5 : Int32))), .val (.int ((x3 &&& (2147483647 : Int32)) % (5 : Int32))), .val (.int (0 : Int32)), .val (.int (0 : Int32)), .val (.ref b168), .val (.ref b177), .val (.int ((x4 &&& (2147483647 : Int32)) % (3 : Int32))), .val (.ref b177), .unset, .unset, .unset] [(.int (0 : Int32)), (.int (0 : Int32))])) _
        refine own_go (fun t_ k_ => XS.icmpNo X183.here hx rfl (hb hby at_179) rfl (teq (show ((0 : Int32) = (0 : Int32)) from by decide)).2 k_) ?_
        show own_Goes p e below (T183.setTop (mkF m 182 #[.val (.int x0), .val (.int x1), .val (.int x2), .val (.int x3), .val (.int x4), .val (.ref b1), .val (.ref b9), .val (.ref b17), .val (.int ((x1 &&& (2147483647 : Int32)) % (5 : Int32))), .val (.int ((x3 &&& (2147483647 : Int32)) % (5 : Int32))), .val (.int (0 : Int32)), .val (.int (0 : Int32)), .val (.ref b168), .val (.ref b177), .val (.int ((x4 &&& (2147483647 : Int32)) % (3 : Int32))), .val (.ref b177), .unset, .unset, .unset] [])) _
        refine own_go (fun t_ k_ => XS.iload X183.here hx rfl (hb hby at_182) rfl k_) ?_
        show own_Goes p e below (T183.setTop (mkF m 184 #[.val (.int x0), .val (.int x1), .val (.int x2), .val (.int x3), .val (.int x4), .val (.ref b1), .val (.ref b9), .val (.ref b17), .val (.int ((x1 &&& (2147483647 : Int32)) % (5 : Int32))), .val (.int ((x3 &&& (2147483647 : Int32)) % (5 : Int32))), .val (.int (0 : Int32)), .val (.int (0 : Int32)), .val (.ref b168), .val (.ref b177), .val (.int ((x4 &&& (2147483647 : Int32)) % (3 : Int32))), .val (.ref b177), .unset, .unset, .unset] [(.int ((x1 &&& (2147483647 : Int32)) % (5 : Int32)))])) _
        refine own_go (fun t_ k_ => XS.iload X183.here hx rfl (hb hby at_184) rfl k_) ?_
        show own_Goes p e below (T183.setTop (mkF m 186 #[.val (.int x0), .val (.int x1), .val (.int x2), .val (.int x3), .val (.int x4), .val (.ref b1), .val (.ref b9), .val (.ref b17), .val (.int ((x1 &&& (2147483647 : Int32)) % (5 : Int32))), .val (.int ((x3 &&& (2147483647 : Int32)) % (5 : Int32))), .val (.int (0 : Int32)), .val (.int (0 : Int32)), .val (.ref b168), .val (.ref b177), .val (.int ((x4 &&& (2147483647 : Int32)) % (3 : Int32))), .val (.ref b177), .unset, .unset, .unset] [(.int ((x3 &&& (2147483647 : Int32)) % (5 : Int32))), (.int ((x1 &&& (2147483647 : Int32)) % (5 : Int32)))])) _
        by_cases hc187 : ((x1 &&& (2147483647 : Int32)) % (5 : Int32)) = ((x3 &&& (2147483647 : Int32)) % (5 : Int32))
        · refine own_go (fun t_ k_ => XS.icmpNo X183.here hx rfl (hb hby at_186) rfl (teq hc187).2 k_) ?_
          show own_Goes p e below (T183.setTop (mkF m 189 #[.val (.int x0), .val (.int x1), .val (.int x2), .val (.int x3), .val (.int x4), .val (.ref b1), .val (.ref b9), .val (.ref b17), .val (.int ((x1 &&& (2147483647 : Int32)) % (5 : Int32))), .val (.int ((x3 &&& (2147483647 : Int32)) % (5 : Int32))), .val (.int (0 : Int32)), .val (.int (0 : Int32)), .val (.ref b168), .val (.ref b177), .val (.int ((x4 &&& (2147483647 : Int32)) % (3 : Int32))), .val (.ref b177), .unset, .unset, .unset] [])) _
          refine own_go (fun t_ k_ => XS.iconst X183.here hx rfl (hb hby at_189) k_) ?_
          show own_Goes p e below (T183.setTop (mkF m 190 #[.val (.int x0), .val (.int x1), .val (.int x2), .val (.int x3), .val (.int x4), .val (.ref b1), .val (.ref b9), .val (.ref b17), .val (.int ((x1 &&& (2147483647 : Int32)) % (5 : Int32))), .val (.int ((x3 &&& (2147483647 : Int32)) % (5 : Int32))), .val (.int (0 : Int32)), .val (.int (0 : Int32)), .val (.ref b168), .val (.ref b177), .val (.int ((x4 &&& (2147483647 : Int32)) % (3 : Int32))), .val (.ref b177), .unset, .unset, .unset] [(.int (1 : Int32))])) _
          refine own_go (fun t_ k_ => XS.goto X183.here hx rfl (pc0 := 190) (pc' := 194) rfl (hb hby at_190) (by decide) (by decide) k_) ?_
          show own_Goes p e below (T183.setTop (mkF m 194 #[.val (.int x0), .val (.int x1), .val (.int x2), .val (.int x3), .val (.int x4), .val (.ref b1), .val (.ref b9), .val (.ref b17), .val (.int ((x1 &&& (2147483647 : Int32)) % (5 : Int32))), .val (.int ((x3 &&& (2147483647 : Int32)) % (5 : Int32))), .val (.int (0 : Int32)), .val (.int (0 : Int32)), .val (.ref b168), .val (.ref b177), .val (.int ((x4 &&& (2147483647 : Int32)) % (3 : Int32))), .val (.ref b177), .unset, .unset, .unset] [(.int (1 : Int32))])) _
          refine own_go (fun t_ k_ => XS.istore X183.here hx rfl (hb hby at_194) rfl (l' := #[.val (.int x0), .val (.int x1), .val (.int x2), .val (.int x3), .val (.int x4), .val (.ref b1), .val (.ref b9), .val (.ref b17), .val (.int ((x1 &&& (2147483647 : Int32)) % (5 : Int32))), .val (.int ((x3 &&& (2147483647 : Int32)) % (5 : Int32))), .val (.int (0 : Int32)), .val (.int (0 : Int32)), .val (.ref b168), .val (.ref b177), .val (.int ((x4 &&& (2147483647 : Int32)) % (3 : Int32))), .val (.ref b177), .val (.int (1 : Int32)), .unset, .unset]) rfl k_) ?_
          show own_Goes p e below (T183.setTop (mkF m 196 #[.val (.int x0), .val (.int x1), .val (.int x2), .val (.int x3), .val (.int x4), .val (.ref b1), .val (.ref b9), .val (.ref b17), .val (.int ((x1 &&& (2147483647 : Int32)) % (5 : Int32))), .val (.int ((x3 &&& (2147483647 : Int32)) % (5 : Int32))), .val (.int (0 : Int32)), .val (.int (0 : Int32)), .val (.ref b168), .val (.ref b177), .val (.int ((x4 &&& (2147483647 : Int32)) % (3 : Int32))), .val (.ref b177), .val (.int (1 : Int32)), .unset, .unset] [])) _
          refine own_go (fun t_ k_ => XS.aload X183.here hx rfl (hb hby at_196) rfl rfl k_) ?_
          show own_Goes p e below (T183.setTop (mkF m 198 #[.val (.int x0), .val (.int x1), .val (.int x2), .val (.int x3), .val (.int x4), .val (.ref b1), .val (.ref b9), .val (.ref b17), .val (.int ((x1 &&& (2147483647 : Int32)) % (5 : Int32))), .val (.int ((x3 &&& (2147483647 : Int32)) % (5 : Int32))), .val (.int (0 : Int32)), .val (.int (0 : Int32)), .val (.ref b168), .val (.ref b177), .val (.int ((x4 &&& (2147483647 : Int32)) % (3 : Int32))), .val (.ref b177), .val (.int (1 : Int32)), .unset, .unset] [(.ref b168)])) _
          refine own_go (fun t_ k_ => XS.aload X183.here hx rfl (hb hby at_198) rfl rfl k_) ?_
          show own_Goes p e below (T183.setTop (mkF m 200 #[.val (.int x0), .val (.int x1), .val (.int x2), .val (.int x3), .val (.int x4), .val (.ref b1), .val (.ref b9), .val (.ref b17), .val (.int ((x1 &&& (2147483647 : Int32)) % (5 : Int32))), .val (.int ((x3 &&& (2147483647 : Int32)) % (5 : Int32))), .val (.int (0 : Int32)), .val (.int (0 : Int32)), .val (.ref b168), .val (.ref b177), .val (.int ((x4 &&& (2147483647 : Int32)) % (3 : Int32))), .val (.ref b177), .val (.int (1 : Int32)), .unset, .unset] [(.ref b177), (.ref b168)])) _
          have f188 := (A177.keep Kc183)
          have f189 := ((c174_0.ext E177).keep Kc183 (ninS (own_ne (a := b168) (b := b177) (by omega)) nin0))
          have f190 := ((c174_1.ext E177).keep Kc183 (ninS (own_ne (a := b168) (b := b177) (by omega)) nin0))
          have f191 := (((A168.keep Kc174).ext E177).keep Kc183)
          obtain ⟨cqiv192, kqiv192, qiv192a, qiv192b, qiv192c⟩ := isOf hZ183 e183 f191
          obtain ⟨_, _, ⟨T193, L193, k193, n193⟩, -, X193, ⟨Lc193, hQ193, l193, y193, z193⟩, st193⟩ := X183.virtualBack hx (y := own_m14) (z := own_m14) hown183 (mvT hZ183 (hw _ (List.mem_of_getElem? (i := 72) rfl))) (mvT hZ183 (hw _ (List.mem_of_getElem? (i := 73) rfl))) (notFace_of_selects (args := #[]) (mvT hZ183 (hw _ (List.mem_of_getElem? (i := 75) rfl)))) (mvT hZ183 (hw _ (List.mem_of_getElem? (i := 75) rfl))) (mvT hZ183 (hw _ (List.mem_of_getElem? (i := 74) rfl))) (by decide) (backOf (W := 0) (own_eqT l Z a0 hw [] b168 b177 b17 b17 r_172 r_181 h183 n0 O184 f188 f189 c183_0 f190 c183_1 (show b17 = b17 from rfl) (show r_172 = r_181 from (by rw [c172_1, c181_1, hc187]))) hZ183 (hw _ (List.mem_of_getElem? (i := 76) rfl)) (hw _ (List.mem_of_getElem? (i := 48) rfl)) (by decide) (by decide)) qiv192a qiv192c (g := (mkF m 200 #[.val (.int x0), .val (.int x1), .val (.int x2), .val (.int x3), .val (.int x4), .val (.ref b1), .val (.ref b9), .val (.ref b17), .val (.int ((x1 &&& (2147483647 : Int32)) % (5 : Int32))), .val (.int ((x3 &&& (2147483647 : Int32)) % (5 : Int32))), .val (.int (0 : Int32)), .val (.int (0 : Int32)), .val (.ref b168), .val (.ref b177), .val (.int ((x4 &&& (2147483647 : Int32)) % (3 : Int32))), .val (.ref b177), .val (.int (1 : Int32)), .unset, .unset] [(.ref b177), (.ref b168)])) rfl (by rw [hml]; rfl) (Steps.refl _) (argsL := [(.ref b177)]) (rest := []) (lenOf own_pd_13 rfl) rfl (by show 2 * 0 + _ ≤ _; exact Nat.le_of_eq rfl) (hb hby at_200) (fun _ _ => ⟨rfl, e183, (by decide : 17 + 0 ≤ _), (by decide : 200 + 0 ≤ _)⟩)
          dsimp only [Pt.U, Pt.locs, Pt.cells, Pt.slots] at X193 l193 y193 z193 st193 hQ193
          subst l193 y193 z193
          obtain ⟨Nc193, e193, rfl⟩ := hQ193
          have N193 := Fr.app N183 Nc193
          refine own_goS st193 ?_
          show own_Goes p e below (T193.setTop (mkF m 203 #[.val (.int x0), .val (.int x1), .val (.int x2), .val (.int x3), .val (.int x4), .val (.ref b1), .val (.ref b9), .val (.ref b17), .val (.int ((x1 &&& (2147483647 : Int32)) % (5 : Int32))), .val (.int ((x3 &&& (2147483647 : Int32)) % (5 : Int32))), .val (.int (0 : Int32)), .val (.int (0 : Int32)), .val (.ref b168), .val (.ref b177), .val (.int ((x4 &&& (2147483647 : Int32)) % (3 : Int32))), .val (.ref b177), .val (.int (1 : Int32)), .unset, .unset] [(.int (1 : Int32))])) _
          refine own_go (fun t_ k_ => XS.istore X193.here hx rfl (hb hby at_203) rfl (l' := #[.val (.int x0), .val (.int x1), .val (.int x2), .val (.int x3), .val (.int x4), .val (.ref b1), .val (.ref b9), .val (.ref b17), .val (.int ((x1 &&& (2147483647 : Int32)) % (5 : Int32))), .val (.int ((x3 &&& (2147483647 : Int32)) % (5 : Int32))), .val (.int (0 : Int32)), .val (.int (0 : Int32)), .val (.ref b168), .val (.ref b177), .val (.int ((x4 &&& (2147483647 : Int32)) % (3 : Int32))), .val (.ref b177), .val (.int (1 : Int32)), .val (.int (1 : Int32)), .unset]) rfl k_) ?_
          show own_Goes p e below (T193.setTop (mkF m 205 #[.val (.int x0), .val (.int x1), .val (.int x2), .val (.int x3), .val (.int x4), .val (.ref b1), .val (.ref b9), .val (.ref b17), .val (.int ((x1 &&& (2147483647 : Int32)) % (5 : Int32))), .val (.int ((x3 &&& (2147483647 : Int32)) % (5 : Int32))), .val (.int (0 : Int32)), .val (.int (0 : Int32)), .val (.ref b168), .val (.ref b177), .val (.int ((x4 &&& (2147483647 : Int32)) % (3 : Int32))), .val (.ref b177), .val (.int (1 : Int32)), .val (.int (1 : Int32)), .unset] [])) _
          refine own_go (fun t_ k_ => XS.aload X193.here hx rfl (hb hby at_205) rfl rfl k_) ?_
          show own_Goes p e below (T193.setTop (mkF m 207 #[.val (.int x0), .val (.int x1), .val (.int x2), .val (.int x3), .val (.int x4), .val (.ref b1), .val (.ref b9), .val (.ref b17), .val (.int ((x1 &&& (2147483647 : Int32)) % (5 : Int32))), .val (.int ((x3 &&& (2147483647 : Int32)) % (5 : Int32))), .val (.int (0 : Int32)), .val (.int (0 : Int32)), .val (.ref b168), .val (.ref b177), .val (.int ((x4 &&& (2147483647 : Int32)) % (3 : Int32))), .val (.ref b177), .val (.int (1 : Int32)), .val (.int (1 : Int32)), .unset] [(.ref b168)])) _
          refine own_go (fun t_ k_ => XS.aload X193.here hx rfl (hb hby at_207) rfl rfl k_) ?_
          show own_Goes p e below (T193.setTop (mkF m 209 #[.val (.int x0), .val (.int x1), .val (.int x2), .val (.int x3), .val (.int x4), .val (.ref b1), .val (.ref b9), .val (.ref b17), .val (.int ((x1 &&& (2147483647 : Int32)) % (5 : Int32))), .val (.int ((x3 &&& (2147483647 : Int32)) % (5 : Int32))), .val (.int (0 : Int32)), .val (.int (0 : Int32)), .val (.ref b168), .val (.ref b177), .val (.int ((x4 &&& (2147483647 : Int32)) % (3 : Int32))), .val (.ref b177), .val (.int (1 : Int32)), .val (.int (1 : Int32)), .unset] [(.ref b168), (.ref b168)])) _
          obtain ⟨cqiv194, kqiv194, qiv194a, qiv194b, qiv194c⟩ := isOf hZ183 e193 f191
          obtain ⟨_, _, ⟨T195, L195, k195, n195⟩, -, X195, ⟨Lc195, hQ195, l195, y195, z195⟩, st195⟩ := X193.virtualBack hx (y := own_m14) (z := own_m14) hown183 (mvT hZ183 (hw _ (List.mem_of_getElem? (i := 72) rfl))) (mvT hZ183 (hw _ (List.mem_of_getElem? (i := 73) rfl))) (notFace_of_selects (args := #[]) (mvT hZ183 (hw _ (List.mem_of_getElem? (i := 75) rfl)))) (mvT hZ183 (hw _ (List.mem_of_getElem? (i := 75) rfl))) (mvT hZ183 (hw _ (List.mem_of_getElem? (i := 74) rfl))) (by decide) (backOf (W := 0) (own_eqT l Z a0 hw [] b168 b168 b17 b17 r_172 r_172 h183 n0 O184 f191 f189 f189 f190 f190 (show b17 = b17 from rfl) (show r_172 = r_172 from rfl)) hZ183 (hw _ (List.mem_of_getElem? (i := 76) rfl)) (hw _ (List.mem_of_getElem? (i := 48) rfl)) (by decide) (by decide)) qiv194a qiv194c (g := (mkF m 209 #[.val (.int x0), .val (.int x1), .val (.int x2), .val (.int x3), .val (.int x4), .val (.ref b1), .val (.ref b9), .val (.ref b17), .val (.int ((x1 &&& (2147483647 : Int32)) % (5 : Int32))), .val (.int ((x3 &&& (2147483647 : Int32)) % (5 : Int32))), .val (.int (0 : Int32)), .val (.int (0 : Int32)), .val (.ref b168), .val (.ref b177), .val (.int ((x4 &&& (2147483647 : Int32)) % (3 : Int32))), .val (.ref b177), .val (.int (1 : Int32)), .val (.int (1 : Int32)), .unset] [(.ref b168), (.ref b168)])) rfl (by rw [hml]; rfl) (Steps.refl _) (argsL := [(.ref b168)]) (rest := []) (lenOf own_pd_13 rfl) rfl (by show 2 * 0 + _ ≤ _; exact Nat.le_of_eq rfl) (hb hby at_209) (fun _ _ => ⟨rfl, e193, (by decide : 17 + 0 ≤ _), (by decide : 200 + 0 ≤ _)⟩)
          dsimp only [Pt.U, Pt.locs, Pt.cells, Pt.slots] at X195 l195 y195 z195 st195 hQ195
          subst l195 y195 z195
          obtain ⟨Nc195, e195, rfl⟩ := hQ195
          have N195 := Fr.app N193 Nc195
          refine own_goS st195 ?_
          show own_Goes p e below (T195.setTop (mkF m 212 #[.val (.int x0), .val (.int x1), .val (.int x2), .val (.int x3), .val (.int x4), .val (.ref b1), .val (.ref b9), .val (.ref b17), .val (.int ((x1 &&& (2147483647 : Int32)) % (5 : Int32))), .val (.int ((x3 &&& (2147483647 : Int32)) % (5 : Int32))), .val (.int (0 : Int32)), .val (.int (0 : Int32)), .val (.ref b168), .val (.ref b177), .val (.int ((x4 &&& (2147483647 : Int32)) % (3 : Int32))), .val (.ref b177), .val (.int (1 : Int32)), .val (.int (1 : Int32)), .unset] [(.int (1 : Int32))])) _
          refine own_go (fun t_ k_ => XS.istore X195.here hx rfl (hb hby at_212) rfl (l' := #[.val (.int x0), .val (.int x1), .val (.int x2), .val (.int x3), .val (.int x4), .val (.ref b1), .val (.ref b9), .val (.ref b17), .val (.int ((x1 &&& (2147483647 : Int32)) % (5 : Int32))), .val (.int ((x3 &&& (2147483647 : Int32)) % (5 : Int32))), .val (.int (0 : Int32)), .val (.int (0 : Int32)), .val (.ref b168), .val (.ref b177), .val (.int ((x4 &&& (2147483647 : Int32)) % (3 : Int32))), .val (.ref b177), .val (.int (1 : Int32)), .val (.int (1 : Int32)), .val (.int (1 : Int32))]) rfl k_) ?_
          show own_Goes p e below (T195.setTop (mkF m 214 #[.val (.int x0), .val (.int x1), .val (.int x2), .val (.int x3), .val (.int x4), .val (.ref b1), .val (.ref b9), .val (.ref b17), .val (.int ((x1 &&& (2147483647 : Int32)) % (5 : Int32))), .val (.int ((x3 &&& (2147483647 : Int32)) % (5 : Int32))), .val (.int (0 : Int32)), .val (.int (0 : Int32)), .val (.ref b168), .val (.ref b177), .val (.int ((x4 &&& (2147483647 : Int32)) % (3 : Int32))), .val (.ref b177), .val (.int (1 : Int32)), .val (.int (1 : Int32)), .val (.int (1 : Int32))] [])) _
          refine own_go (fun t_ k_ => XS.iload X195.here hx rfl (hb hby at_214) rfl k_) ?_
          show own_Goes p e below (T195.setTop (mkF m 216 #[.val (.int x0), .val (.int x1), .val (.int x2), .val (.int x3), .val (.int x4), .val (.ref b1), .val (.ref b9), .val (.ref b17), .val (.int ((x1 &&& (2147483647 : Int32)) % (5 : Int32))), .val (.int ((x3 &&& (2147483647 : Int32)) % (5 : Int32))), .val (.int (0 : Int32)), .val (.int (0 : Int32)), .val (.ref b168), .val (.ref b177), .val (.int ((x4 &&& (2147483647 : Int32)) % (3 : Int32))), .val (.ref b177), .val (.int (1 : Int32)), .val (.int (1 : Int32)), .val (.int (1 : Int32))] [(.int (1 : Int32))])) _
          refine own_go (fun t_ k_ => XS.iload X195.here hx rfl (hb hby at_216) rfl k_) ?_
          show own_Goes p e below (T195.setTop (mkF m 218 #[.val (.int x0), .val (.int x1), .val (.int x2), .val (.int x3), .val (.int x4), .val (.ref b1), .val (.ref b9), .val (.ref b17), .val (.int ((x1 &&& (2147483647 : Int32)) % (5 : Int32))), .val (.int ((x3 &&& (2147483647 : Int32)) % (5 : Int32))), .val (.int (0 : Int32)), .val (.int (0 : Int32)), .val (.ref b168), .val (.ref b177), .val (.int ((x4 &&& (2147483647 : Int32)) % (3 : Int32))), .val (.ref b177), .val (.int (1 : Int32)), .val (.int (1 : Int32)), .val (.int (1 : Int32))] [(.int (1 : Int32)), (.int (1 : Int32))])) _
          refine own_go (fun t_ k_ => XS.icmpNo X195.here hx rfl (hb hby at_218) rfl (teq (show ((1 : Int32) = (1 : Int32)) from by decide)).2 k_) ?_
          show own_Goes p e below (T195.setTop (mkF m 221 #[.val (.int x0), .val (.int x1), .val (.int x2), .val (.int x3), .val (.int x4), .val (.ref b1), .val (.ref b9), .val (.ref b17), .val (.int ((x1 &&& (2147483647 : Int32)) % (5 : Int32))), .val (.int ((x3 &&& (2147483647 : Int32)) % (5 : Int32))), .val (.int (0 : Int32)), .val (.int (0 : Int32)), .val (.ref b168), .val (.ref b177), .val (.int ((x4 &&& (2147483647 : Int32)) % (3 : Int32))), .val (.ref b177), .val (.int (1 : Int32)), .val (.int (1 : Int32)), .val (.int (1 : Int32))] [])) _
          refine own_go (fun t_ k_ => XS.iload X195.here hx rfl (hb hby at_221) rfl k_) ?_
          show own_Goes p e below (T195.setTop (mkF m 223 #[.val (.int x0), .val (.int x1), .val (.int x2), .val (.int x3), .val (.int x4), .val (.ref b1), .val (.ref b9), .val (.ref b17), .val (.int ((x1 &&& (2147483647 : Int32)) % (5 : Int32))), .val (.int ((x3 &&& (2147483647 : Int32)) % (5 : Int32))), .val (.int (0 : Int32)), .val (.int (0 : Int32)), .val (.ref b168), .val (.ref b177), .val (.int ((x4 &&& (2147483647 : Int32)) % (3 : Int32))), .val (.ref b177), .val (.int (1 : Int32)), .val (.int (1 : Int32)), .val (.int (1 : Int32))] [(.int (1 : Int32))])) _
          refine own_go (fun t_ k_ => XS.ifNo X195.here hx rfl (hb hby at_223) rfl ((if0 _ _).trans (feq (show ¬ ((1 : Int32) = (0 : Int32)) from by decide)).1) k_) ?_
          show own_Goes p e below (T195.setTop (mkF m 226 #[.val (.int x0), .val (.int x1), .val (.int x2), .val (.int x3), .val (.int x4), .val (.ref b1), .val (.ref b9), .val (.ref b17), .val (.int ((x1 &&& (2147483647 : Int32)) % (5 : Int32))), .val (.int ((x3 &&& (2147483647 : Int32)) % (5 : Int32))), .val (.int (0 : Int32)), .val (.int (0 : Int32)), .val (.ref b168), .val (.ref b177), .val (.int ((x4 &&& (2147483647 : Int32)) % (3 : Int32))), .val (.ref b177), .val (.int (1 : Int32)), .val (.int (1 : Int32)), .val (.int (1 : Int32))] [])) _
          refine own_go (fun t_ k_ => XS.iconst X195.here hx rfl (hb hby at_226) k_) ?_
          show own_Goes p e below (T195.setTop (mkF m 227 #[.val (.int x0), .val (.int x1), .val (.int x2), .val (.int x3), .val (.int x4), .val (.ref b1), .val (.ref b9), .val (.ref b17), .val (.int ((x1 &&& (2147483647 : Int32)) % (5 : Int32))), .val (.int ((x3 &&& (2147483647 : Int32)) % (5 : Int32))), .val (.int (0 : Int32)), .val (.int (0 : Int32)), .val (.ref b168), .val (.ref b177), .val (.int ((x4 &&& (2147483647 : Int32)) % (3 : Int32))), .val (.ref b177), .val (.int (1 : Int32)), .val (.int (1 : Int32)), .val (.int (1 : Int32))] [(.int (1 : Int32))])) _
          refine own_go (fun t_ k_ => XS.goto X195.here hx rfl (pc0 := 227) (pc' := 231) rfl (hb hby at_227) (by decide) (by decide) k_) ?_
          show own_Goes p e below (T195.setTop (mkF m 231 #[.val (.int x0), .val (.int x1), .val (.int x2), .val (.int x3), .val (.int x4), .val (.ref b1), .val (.ref b9), .val (.ref b17), .val (.int ((x1 &&& (2147483647 : Int32)) % (5 : Int32))), .val (.int ((x3 &&& (2147483647 : Int32)) % (5 : Int32))), .val (.int (0 : Int32)), .val (.int (0 : Int32)), .val (.ref b168), .val (.ref b177), .val (.int ((x4 &&& (2147483647 : Int32)) % (3 : Int32))), .val (.ref b177), .val (.int (1 : Int32)), .val (.int (1 : Int32)), .val (.int (1 : Int32))] [(.int (1 : Int32))])) _
          refine own_endW X195 hS183 (show _ ≤ T195.heap.size by rw [e195]; exact hk183) (v := (some (.int (1 : Int32)))) (fun h => by rw [hret] at h; cases h) hlk (by decide) (by decide) ?_ (fun fs hr => retOut X195 hx hret rfl (Or.inl ⟨rfl, Or.inr (Or.inl rfl), _, rfl⟩) (hb hby at_231) hr)
          show Q_rm0 Z x0 x1 x2 x3 x4 gw0 gw1 gw2 gw3 gw4 h0 n0 _ T195.heap _
          rw [e195]
          exact ⟨N195, trivial, rfl⟩
        · refine own_go (fun t_ k_ => XS.icmpYes X183.here hx rfl (pc0 := 186) (pc' := 193) rfl (hb hby at_186) rfl (feq hc187).2 (by decide) (by decide) k_) ?_
          show own_Goes p e below (T183.setTop (mkF m 193 #[.val (.int x0), .val (.int x1), .val (.int x2), .val (.int x3), .val (.int x4), .val (.ref b1), .val (.ref b9), .val (.ref b17), .val (.int ((x1 &&& (2147483647 : Int32)) % (5 : Int32))), .val (.int ((x3 &&& (2147483647 : Int32)) % (5 : Int32))), .val (.int (0 : Int32)), .val (.int (0 : Int32)), .val (.ref b168), .val (.ref b177), .val (.int ((x4 &&& (2147483647 : Int32)) % (3 : Int32))), .val (.ref b177), .unset, .unset, .unset] [])) _
          refine own_go (fun t_ k_ => XS.iconst X183.here hx rfl (hb hby at_193) k_) ?_
          show own_Goes p e below (T183.setTop (mkF m 194 #[.val (.int x0), .val (.int x1), .val (.int x2), .val (.int x3), .val (.int x4), .val (.ref b1), .val (.ref b9), .val (.ref b17), .val (.int ((x1 &&& (2147483647 : Int32)) % (5 : Int32))), .val (.int ((x3 &&& (2147483647 : Int32)) % (5 : Int32))), .val (.int (0 : Int32)), .val (.int (0 : Int32)), .val (.ref b168), .val (.ref b177), .val (.int ((x4 &&& (2147483647 : Int32)) % (3 : Int32))), .val (.ref b177), .unset, .unset, .unset] [(.int (0 : Int32))])) _
          refine own_go (fun t_ k_ => XS.istore X183.here hx rfl (hb hby at_194) rfl (l' := #[.val (.int x0), .val (.int x1), .val (.int x2), .val (.int x3), .val (.int x4), .val (.ref b1), .val (.ref b9), .val (.ref b17), .val (.int ((x1 &&& (2147483647 : Int32)) % (5 : Int32))), .val (.int ((x3 &&& (2147483647 : Int32)) % (5 : Int32))), .val (.int (0 : Int32)), .val (.int (0 : Int32)), .val (.ref b168), .val (.ref b177), .val (.int ((x4 &&& (2147483647 : Int32)) % (3 : Int32))), .val (.ref b177), .val (.int (0 : Int32)), .unset, .unset]) rfl k_) ?_
          show own_Goes p e below (T183.setTop (mkF m 196 #[.val (.int x0), .val (.int x1), .val (.int x2), .val (.int x3), .val (.int x4), .val (.ref b1), .val (.ref b9), .val (.ref b17), .val (.int ((x1 &&& (2147483647 : Int32)) % (5 : Int32))), .val (.int ((x3 &&& (2147483647 : Int32)) % (5 : Int32))), .val (.int (0 : Int32)), .val (.int (0 : Int32)), .val (.ref b168), .val (.ref b177), .val (.int ((x4 &&& (2147483647 : Int32)) % (3 : Int32))), .val (.ref b177), .val (.int (0 : Int32)), .unset, .unset] [])) _
          refine own_go (fun t_ k_ => XS.aload X183.here hx rfl (hb hby at_196) rfl rfl k_) ?_
          show own_Goes p e below (T183.setTop (mkF m 198 #[.val (.int x0), .val (.int x1), .val (.int x2), .val (.int x3), .val (.int x4), .val (.ref b1), .val (.ref b9), .val (.ref b17), .val (.int ((x1 &&& (2147483647 : Int32)) % (5 : Int32))), .val (.int ((x3 &&& (2147483647 : Int32)) % (5 : Int32))), .val (.int (0 : Int32)), .val (.int (0 : Int32)), .val (.ref b168), .val (.ref b177), .val (.int ((x4 &&& (2147483647 : Int32)) % (3 : Int32))), .val (.ref b177), .val (.int (0 : Int32)), .unset, .unset] [(.ref b168)])) _
          refine own_go (fun t_ k_ => XS.aload X183.here hx rfl (hb hby at_198) rfl rfl k_) ?_
          show own_Goes p e below (T183.setTop (mkF m 200 #[.val (.int x0), .val (.int x1), .val (.int x2), .val (.int x3), .val (.int x4), .val (.ref b1), .val (.ref b9), .val (.ref b17), .val (.int ((x1 &&& (2147483647 : Int32)) % (5 : Int32))), .val (.int ((x3 &&& (2147483647 : Int32)) % (5 : Int32))), .val (.int (0 : Int32)), .val (.int (0 : Int32)), .val (.ref b168), .val (.ref b177), .val (.int ((x4 &&& (2147483647 : Int32)) % (3 : Int32))), .val (.ref b177), .val (.int (0 : Int32)), .unset, .unset] [(.ref b177), (.ref b168)])) _
          have f196 := (A177.keep Kc183)
          have f197 := ((c174_0.ext E177).keep Kc183 (ninS (own_ne (a := b168) (b := b177) (by omega)) nin0))
          have f198 := ((c174_1.ext E177).keep Kc183 (ninS (own_ne (a := b168) (b := b177) (by omega)) nin0))
          have f199 := (((A168.keep Kc174).ext E177).keep Kc183)
          obtain ⟨cqiv200, kqiv200, qiv200a, qiv200b, qiv200c⟩ := isOf hZ183 e183 f199
          obtain ⟨_, _, ⟨T201, L201, k201, n201⟩, -, X201, ⟨Lc201, hQ201, l201, y201, z201⟩, st201⟩ := X183.virtualBack hx (y := own_m14) (z := own_m14) hown183 (mvT hZ183 (hw _ (List.mem_of_getElem? (i := 72) rfl))) (mvT hZ183 (hw _ (List.mem_of_getElem? (i := 73) rfl))) (notFace_of_selects (args := #[]) (mvT hZ183 (hw _ (List.mem_of_getElem? (i := 75) rfl)))) (mvT hZ183 (hw _ (List.mem_of_getElem? (i := 75) rfl))) (mvT hZ183 (hw _ (List.mem_of_getElem? (i := 74) rfl))) (by decide) (backOf (W := 0) (own_eqF l Z a0 hw [] b168 b177 b17 b17 r_172 r_181 h183 n0 O184 f196 f197 c183_0 f198 c183_1 (show ¬ (b17 = b17 ∧ r_172 = r_181) from (fun q => Fld.ne c172_2 c181_2 (fun z => hc187 (Value.int.inj z)) q.2))) hZ183 (hw _ (List.mem_of_getElem? (i := 76) rfl)) (hw _ (List.mem_of_getElem? (i := 48) rfl)) (by decide) (by decide)) qiv200a qiv200c (g := (mkF m 200 #[.val (.int x0), .val (.int x1), .val (.int x2), .val (.int x3), .val (.int x4), .val (.ref b1), .val (.ref b9), .val (.ref b17), .val (.int ((x1 &&& (2147483647 : Int32)) % (5 : Int32))), .val (.int ((x3 &&& (2147483647 : Int32)) % (5 : Int32))), .val (.int (0 : Int32)), .val (.int (0 : Int32)), .val (.ref b168), .val (.ref b177), .val (.int ((x4 &&& (2147483647 : Int32)) % (3 : Int32))), .val (.ref b177), .val (.int (0 : Int32)), .unset, .unset] [(.ref b177), (.ref b168)])) rfl (by rw [hml]; rfl) (Steps.refl _) (argsL := [(.ref b177)]) (rest := []) (lenOf own_pd_13 rfl) rfl (by show 2 * 0 + _ ≤ _; exact Nat.le_of_eq rfl) (hb hby at_200) (fun _ _ => ⟨rfl, e183, (by decide : 17 + 0 ≤ _), (by decide : 200 + 0 ≤ _)⟩)
          dsimp only [Pt.U, Pt.locs, Pt.cells, Pt.slots] at X201 l201 y201 z201 st201 hQ201
          subst l201 y201 z201
          obtain ⟨Nc201, e201, rfl⟩ := hQ201
          have N201 := Fr.app N183 Nc201
          refine own_goS st201 ?_
          show own_Goes p e below (T201.setTop (mkF m 203 #[.val (.int x0), .val (.int x1), .val (.int x2), .val (.int x3), .val (.int x4), .val (.ref b1), .val (.ref b9), .val (.ref b17), .val (.int ((x1 &&& (2147483647 : Int32)) % (5 : Int32))), .val (.int ((x3 &&& (2147483647 : Int32)) % (5 : Int32))), .val (.int (0 : Int32)), .val (.int (0 : Int32)), .val (.ref b168), .val (.ref b177), .val (.int ((x4 &&& (2147483647 : Int32)) % (3 : Int32))), .val (.ref b177), .val (.int (0 : Int32)), .unset, .unset] [(.int (0 : Int32))])) _
          refine own_go (fun t_ k_ => XS.istore X201.here hx rfl (hb hby at_203) rfl (l' := #[.val (.int x0), .val (.int x1), .val (.int x2), .val (.int x3), .val (.int x4), .val (.ref b1), .val (.ref b9), .val (.ref b17), .val (.int ((x1 &&& (2147483647 : Int32)) % (5 : Int32))), .val (.int ((x3 &&& (2147483647 : Int32)) % (5 : Int32))), .val (.int (0 : Int32)), .val (.int (0 : Int32)), .val (.ref b168), .val (.ref b177), .val (.int ((x4 &&& (2147483647 : Int32)) % (3 : Int32))), .val (.ref b177), .val (.int (0 : Int32)), .val (.int (0 : Int32)), .unset]) rfl k_) ?_
          show own_Goes p e below (T201.setTop (mkF m 205 #[.val (.int x0), .val (.int x1), .val (.int x2), .val (.int x3), .val (.int x4), .val (.ref b1), .val (.ref b9), .val (.ref b17), .val (.int ((x1 &&& (2147483647 : Int32)) % (5 : Int32))), .val (.int ((x3 &&& (2147483647 : Int32)) % (5 : Int32))), .val (.int (0 : Int32)), .val (.int (0 : Int32)), .val (.ref b168), .val (.ref b177), .val (.int ((x4 &&& (2147483647 : Int32)) % (3 : Int32))), .val (.ref b177), .val (.int (0 : Int32)), .val (.int (0 : Int32)), .unset] [])) _
          refine own_go (fun t_ k_ => XS.aload X201.here hx rfl (hb hby at_205) rfl rfl k_) ?_
          show own_Goes p e below (T201.setTop (mkF m 207 #[.val (.int x0), .val (.int x1), .val (.int x2), .val (.int x3), .val (.int x4), .val (.ref b1), .val (.ref b9), .val (.ref b17), .val (.int ((x1 &&& (2147483647 : Int32)) % (5 : Int32))), .val (.int ((x3 &&& (2147483647 : Int32)) % (5 : Int32))), .val (.int (0 : Int32)), .val (.int (0 : Int32)), .val (.ref b168), .val (.ref b177), .val (.int ((x4 &&& (2147483647 : Int32)) % (3 : Int32))), .val (.ref b177), .val (.int (0 : Int32)), .val (.int (0 : Int32)), .unset] [(.ref b168)])) _
          refine own_go (fun t_ k_ => XS.aload X201.here hx rfl (hb hby at_207) rfl rfl k_) ?_
          show own_Goes p e below (T201.setTop (mkF m 209 #[.val (.int x0), .val (.int x1), .val (.int x2), .val (.int x3), .val (.int x4), .val (.ref b1), .val (.ref b9), .val (.ref b17), .val (.int ((x1 &&& (2147483647 : Int32)) % (5 : Int32))), .val (.int ((x3 &&& (2147483647 : Int32)) % (5 : Int32))), .val (.int (0 : Int32)), .val (.int (0 : Int32)), .val (.ref b168), .val (.ref b177), .val (.int ((x4 &&& (2147483647 : Int32)) % (3 : Int32))), .val (.ref b177), .val (.int (0 : Int32)), .val (.int (0 : Int32)), .unset] [(.ref b168), (.ref b168)])) _
          obtain ⟨cqiv202, kqiv202, qiv202a, qiv202b, qiv202c⟩ := isOf hZ183 e201 f199
          obtain ⟨_, _, ⟨T203, L203, k203, n203⟩, -, X203, ⟨Lc203, hQ203, l203, y203, z203⟩, st203⟩ := X201.virtualBack hx (y := own_m14) (z := own_m14) hown183 (mvT hZ183 (hw _ (List.mem_of_getElem? (i := 72) rfl))) (mvT hZ183 (hw _ (List.mem_of_getElem? (i := 73) rfl))) (notFace_of_selects (args := #[]) (mvT hZ183 (hw _ (List.mem_of_getElem? (i := 75) rfl)))) (mvT hZ183 (hw _ (List.mem_of_getElem? (i := 75) rfl))) (mvT hZ183 (hw _ (List.mem_of_getElem? (i := 74) rfl))) (by decide) (backOf (W := 0) (own_eqT l Z a0 hw [] b168 b168 b17 b17 r_172 r_172 h183 n0 O184 f199 f197 f197 f198 f198 (show b17 = b17 from rfl) (show r_172 = r_172 from rfl)) hZ183 (hw _ (List.mem_of_getElem? (i := 76) rfl)) (hw _ (List.mem_of_getElem? (i := 48) rfl)) (by decide) (by decide)) qiv202a qiv202c (g := (mkF m 209 #[.val (.int x0), .val (.int x1), .val (.int x2), .val (.int x3), .val (.int x4), .val (.ref b1), .val (.ref b9), .val (.ref b17), .val (.int ((x1 &&& (2147483647 : Int32)) % (5 : Int32))), .val (.int ((x3 &&& (2147483647 : Int32)) % (5 : Int32))), .val (.int (0 : Int32)), .val (.int (0 : Int32)), .val (.ref b168), .val (.ref b177), .val (.int ((x4 &&& (2147483647 : Int32)) % (3 : Int32))), .val (.ref b177), .val (.int (0 : Int32)), .val (.int (0 : Int32)), .unset] [(.ref b168), (.ref b168)])) rfl (by rw [hml]; rfl) (Steps.refl _) (argsL := [(.ref b168)]) (rest := []) (lenOf own_pd_13 rfl) rfl (by show 2 * 0 + _ ≤ _; exact Nat.le_of_eq rfl) (hb hby at_209) (fun _ _ => ⟨rfl, e201, (by decide : 17 + 0 ≤ _), (by decide : 200 + 0 ≤ _)⟩)
          dsimp only [Pt.U, Pt.locs, Pt.cells, Pt.slots] at X203 l203 y203 z203 st203 hQ203
          subst l203 y203 z203
          obtain ⟨Nc203, e203, rfl⟩ := hQ203
          have N203 := Fr.app N201 Nc203
          refine own_goS st203 ?_
          show own_Goes p e below (T203.setTop (mkF m 212 #[.val (.int x0), .val (.int x1), .val (.int x2), .val (.int x3), .val (.int x4), .val (.ref b1), .val (.ref b9), .val (.ref b17), .val (.int ((x1 &&& (2147483647 : Int32)) % (5 : Int32))), .val (.int ((x3 &&& (2147483647 : Int32)) % (5 : Int32))), .val (.int (0 : Int32)), .val (.int (0 : Int32)), .val (.ref b168), .val (.ref b177), .val (.int ((x4 &&& (2147483647 : Int32)) % (3 : Int32))), .val (.ref b177), .val (.int (0 : Int32)), .val (.int (0 : Int32)), .unset] [(.int (1 : Int32))])) _
          refine own_go (fun t_ k_ => XS.istore X203.here hx rfl (hb hby at_212) rfl (l' := #[.val (.int x0), .val (.int x1), .val (.int x2), .val (.int x3), .val (.int x4), .val (.ref b1), .val (.ref b9), .val (.ref b17), .val (.int ((x1 &&& (2147483647 : Int32)) % (5 : Int32))), .val (.int ((x3 &&& (2147483647 : Int32)) % (5 : Int32))), .val (.int (0 : Int32)), .val (.int (0 : Int32)), .val (.ref b168), .val (.ref b177), .val (.int ((x4 &&& (2147483647 : Int32)) % (3 : Int32))), .val (.ref b177), .val (.int (0 : Int32)), .val (.int (0 : Int32)), .val (.int (1 : Int32))]) rfl k_) ?_
          show own_Goes p e below (T203.setTop (mkF m 214 #[.val (.int x0), .val (.int x1), .val (.int x2), .val (.int x3), .val (.int x4), .val (.ref b1), .val (.ref b9), .val (.ref b17), .val (.int ((x1 &&& (2147483647 : Int32)) % (5 : Int32))), .val (.int ((x3 &&& (2147483647 : Int32)) % (5 : Int32))), .val (.int (0 : Int32)), .val (.int (0 : Int32)), .val (.ref b168), .val (.ref b177), .val (.int ((x4 &&& (2147483647 : Int32)) % (3 : Int32))), .val (.ref b177), .val (.int (0 : Int32)), .val (.int (0 : Int32)), .val (.int (1 : Int32))] [])) _
          refine own_go (fun t_ k_ => XS.iload X203.here hx rfl (hb hby at_214) rfl k_) ?_
          show own_Goes p e below (T203.setTop (mkF m 216 #[.val (.int x0), .val (.int x1), .val (.int x2), .val (.int x3), .val (.int x4), .val (.ref b1), .val (.ref b9), .val (.ref b17), .val (.int ((x1 &&& (2147483647 : Int32)) % (5 : Int32))), .val (.int ((x3 &&& (2147483647 : Int32)) % (5 : Int32))), .val (.int (0 : Int32)), .val (.int (0 : Int32)), .val (.ref b168), .val (.ref b177), .val (.int ((x4 &&& (2147483647 : Int32)) % (3 : Int32))), .val (.ref b177), .val (.int (0 : Int32)), .val (.int (0 : Int32)), .val (.int (1 : Int32))] [(.int (0 : Int32))])) _
          refine own_go (fun t_ k_ => XS.iload X203.here hx rfl (hb hby at_216) rfl k_) ?_
          show own_Goes p e below (T203.setTop (mkF m 218 #[.val (.int x0), .val (.int x1), .val (.int x2), .val (.int x3), .val (.int x4), .val (.ref b1), .val (.ref b9), .val (.ref b17), .val (.int ((x1 &&& (2147483647 : Int32)) % (5 : Int32))), .val (.int ((x3 &&& (2147483647 : Int32)) % (5 : Int32))), .val (.int (0 : Int32)), .val (.int (0 : Int32)), .val (.ref b168), .val (.ref b177), .val (.int ((x4 &&& (2147483647 : Int32)) % (3 : Int32))), .val (.ref b177), .val (.int (0 : Int32)), .val (.int (0 : Int32)), .val (.int (1 : Int32))] [(.int (0 : Int32)), (.int (0 : Int32))])) _
          refine own_go (fun t_ k_ => XS.icmpNo X203.here hx rfl (hb hby at_218) rfl (teq (show ((0 : Int32) = (0 : Int32)) from by decide)).2 k_) ?_
          show own_Goes p e below (T203.setTop (mkF m 221 #[.val (.int x0), .val (.int x1), .val (.int x2), .val (.int x3), .val (.int x4), .val (.ref b1), .val (.ref b9), .val (.ref b17), .val (.int ((x1 &&& (2147483647 : Int32)) % (5 : Int32))), .val (.int ((x3 &&& (2147483647 : Int32)) % (5 : Int32))), .val (.int (0 : Int32)), .val (.int (0 : Int32)), .val (.ref b168), .val (.ref b177), .val (.int ((x4 &&& (2147483647 : Int32)) % (3 : Int32))), .val (.ref b177), .val (.int (0 : Int32)), .val (.int (0 : Int32)), .val (.int (1 : Int32))] [])) _
          refine own_go (fun t_ k_ => XS.iload X203.here hx rfl (hb hby at_221) rfl k_) ?_
          show own_Goes p e below (T203.setTop (mkF m 223 #[.val (.int x0), .val (.int x1), .val (.int x2), .val (.int x3), .val (.int x4), .val (.ref b1), .val (.ref b9), .val (.ref b17), .val (.int ((x1 &&& (2147483647 : Int32)) % (5 : Int32))), .val (.int ((x3 &&& (2147483647 : Int32)) % (5 : Int32))), .val (.int (0 : Int32)), .val (.int (0 : Int32)), .val (.ref b168), .val (.ref b177), .val (.int ((x4 &&& (2147483647 : Int32)) % (3 : Int32))), .val (.ref b177), .val (.int (0 : Int32)), .val (.int (0 : Int32)), .val (.int (1 : Int32))] [(.int (1 : Int32))])) _
          refine own_go (fun t_ k_ => XS.ifNo X203.here hx rfl (hb hby at_223) rfl ((if0 _ _).trans (feq (show ¬ ((1 : Int32) = (0 : Int32)) from by decide)).1) k_) ?_
          show own_Goes p e below (T203.setTop (mkF m 226 #[.val (.int x0), .val (.int x1), .val (.int x2), .val (.int x3), .val (.int x4), .val (.ref b1), .val (.ref b9), .val (.ref b17), .val (.int ((x1 &&& (2147483647 : Int32)) % (5 : Int32))), .val (.int ((x3 &&& (2147483647 : Int32)) % (5 : Int32))), .val (.int (0 : Int32)), .val (.int (0 : Int32)), .val (.ref b168), .val (.ref b177), .val (.int ((x4 &&& (2147483647 : Int32)) % (3 : Int32))), .val (.ref b177), .val (.int (0 : Int32)), .val (.int (0 : Int32)), .val (.int (1 : Int32))] [])) _
          refine own_go (fun t_ k_ => XS.iconst X203.here hx rfl (hb hby at_226) k_) ?_
          show own_Goes p e below (T203.setTop (mkF m 227 #[.val (.int x0), .val (.int x1), .val (.int x2), .val (.int x3), .val (.int x4), .val (.ref b1), .val (.ref b9), .val (.ref b17), .val (.int ((x1 &&& (2147483647 : Int32)) % (5 : Int32))), .val (.int ((x3 &&& (2147483647 : Int32)) % (5 : Int32))), .val (.int (0 : Int32)), .val (.int (0 : Int32)), .val (.ref b168), .val (.ref b177), .val (.int ((x4 &&& (2147483647 : Int32)) % (3 : Int32))), .val (.ref b177), .val (.int (0 : Int32)), .val (.int (0 : Int32)), .val (.int (1 : Int32))] [(.int (1 : Int32))])) _
          refine own_go (fun t_ k_ => XS.goto X203.here hx rfl (pc0 := 227) (pc' := 231) rfl (hb hby at_227) (by decide) (by decide) k_) ?_
          show own_Goes p e below (T203.setTop (mkF m 231 #[.val (.int x0), .val (.int x1), .val (.int x2), .val (.int x3), .val (.int x4), .val (.ref b1), .val (.ref b9), .val (.ref b17), .val (.int ((x1 &&& (2147483647 : Int32)) % (5 : Int32))), .val (.int ((x3 &&& (2147483647 : Int32)) % (5 : Int32))), .val (.int (0 : Int32)), .val (.int (0 : Int32)), .val (.ref b168), .val (.ref b177), .val (.int ((x4 &&& (2147483647 : Int32)) % (3 : Int32))), .val (.ref b177), .val (.int (0 : Int32)), .val (.int (0 : Int32)), .val (.int (1 : Int32))] [(.int (1 : Int32))])) _
          refine own_endW X203 hS183 (show _ ≤ T203.heap.size by rw [e203]; exact hk183) (v := (some (.int (1 : Int32)))) (fun h => by rw [hret] at h; cases h) hlk (by decide) (by decide) ?_ (fun fs hr => retOut X203 hx hret rfl (Or.inl ⟨rfl, Or.inr (Or.inl rfl), _, rfl⟩) (hb hby at_231) hr)
          show Q_rm0 Z x0 x1 x2 x3 x4 gw0 gw1 gw2 gw3 gw4 h0 n0 _ T203.heap _
          rw [e203]
          exact ⟨N203, trivial, rfl⟩
      · refine own_go (fun t_ k_ => XS.ifYes X183.here hx rfl (pc0 := 134) (pc' := 144) rfl (hb hby at_134) rfl ((if0 _ _).trans (feq hc186).2) (by decide) (by decide) k_) ?_
        show own_Goes p e below (T183.setTop (mkF m 144 #[.val (.int x0), .val (.int x1), .val (.int x2), .val (.int x3), .val (.int x4), .val (.ref b1), .val (.ref b9), .val (.ref b17), .val (.int ((x1 &&& (2147483647 : Int32)) % (5 : Int32))), .val (.int ((x3 &&& (2147483647 : Int32)) % (5 : Int32))), .val (.int (0 : Int32)), .val (.int (0 : Int32)), .val (.ref b168), .val (.ref b177), .val (.int ((x4 &&& (2147483647 : Int32)) % (3 : Int32))), .unset, .unset, .unset, .unset] [])) _
        refine own_go (fun t_ k_ => XS.iload X183.here hx rfl (hb hby at_144) rfl k_) ?_
        show own_Goes p e below (T183.setTop (mkF m 146 #[.val (.int x0), .val (.int x1), .val (.int x2), .val (.int x3), .val (.int x4), .val (.ref b1), .val (.ref b9), .val (.ref b17), .val (.int ((x1 &&& (2147483647 : Int32)) % (5 : Int32))), .val (.int ((x3 &&& (2147483647 : Int32)) % (5 : Int32))), .val (.int (0 : Int32)), .val (.int (0 : Int32)), .val (.ref b168), .val (.ref b177), .val (.int ((x4 &&& (2147483647 : Int32)) % (3 : Int32))), .unset, .unset, .unset, .unset] [(.int ((x4 &&& (2147483647 : Int32)) % (3 : Int32)))])) _
        refine own_go (fun t_ k_ => XS.iconst X183.here hx rfl (hb hby at_146) k_) ?_
        show own_Goes p e below (T183.setTop (mkF m 147 #[.val (.int x0), .val (.int x1), .val (.int x2), .val (.int x3), .val (.int x4), .val (.ref b1), .val (.ref b9), .val (.ref b17), .val (.int ((x1 &&& (2147483647 : Int32)) % (5 : Int32))), .val (.int ((x3 &&& (2147483647 : Int32)) % (5 : Int32))), .val (.int (0 : Int32)), .val (.int (0 : Int32)), .val (.ref b168), .val (.ref b177), .val (.int ((x4 &&& (2147483647 : Int32)) % (3 : Int32))), .unset, .unset, .unset, .unset] [(.int (1 : Int32)), (.int ((x4 &&& (2147483647 : Int32)) % (3 : Int32)))])) _
        by_cases hc204 : ((x4 &&& (2147483647 : Int32)) % (3 : Int32)) = (1 : Int32)
        · refine own_go (fun t_ k_ => XS.icmpNo X183.here hx rfl (hb hby at_147) rfl (teq hc204).2 k_) ?_
          show own_Goes p e below (T183.setTop (mkF m 150 #[.val (.int x0), .val (.int x1), .val (.int x2), .val (.int x3), .val (.int x4), .val (.ref b1), .val (.ref b9), .val (.ref b17), .val (.int ((x1 &&& (2147483647 : Int32)) % (5 : Int32))), .val (.int ((x3 &&& (2147483647 : Int32)) % (5 : Int32))), .val (.int (0 : Int32)), .val (.int (0 : Int32)), .val (.ref b168), .val (.ref b177), .val (.int ((x4 &&& (2147483647 : Int32)) % (3 : Int32))), .unset, .unset, .unset, .unset] [])) _
          refine own_go (fun t_ k_ => XS.aconstNull X183.here hx rfl (hb hby at_150) k_) ?_
          show own_Goes p e below (T183.setTop (mkF m 151 #[.val (.int x0), .val (.int x1), .val (.int x2), .val (.int x3), .val (.int x4), .val (.ref b1), .val (.ref b9), .val (.ref b17), .val (.int ((x1 &&& (2147483647 : Int32)) % (5 : Int32))), .val (.int ((x3 &&& (2147483647 : Int32)) % (5 : Int32))), .val (.int (0 : Int32)), .val (.int (0 : Int32)), .val (.ref b168), .val (.ref b177), .val (.int ((x4 &&& (2147483647 : Int32)) % (3 : Int32))), .unset, .unset, .unset, .unset] [.null])) _
          refine own_go (fun t_ k_ => XS.astore X183.here hx rfl (hb hby at_151) rfl rfl (l' := #[.val (.int x0), .val (.int x1), .val (.int x2), .val (.int x3), .val (.int x4), .val (.ref b1), .val (.ref b9), .val (.ref b17), .val (.int ((x1 &&& (2147483647 : Int32)) % (5 : Int32))), .val (.int ((x3 &&& (2147483647 : Int32)) % (5 : Int32))), .val (.int (0 : Int32)), .val (.int (0 : Int32)), .val (.ref b168), .val (.ref b177), .val (.int ((x4 &&& (2147483647 : Int32)) % (3 : Int32))), .val .null, .unset, .unset, .unset]) rfl k_) ?_
          show own_Goes p e below (T183.setTop (mkF m 153 #[.val (.int x0), .val (.int x1), .val (.int x2), .val (.int x3), .val (.int x4), .val (.ref b1), .val (.ref b9), .val (.ref b17), .val (.int ((x1 &&& (2147483647 : Int32)) % (5 : Int32))), .val (.int ((x3 &&& (2147483647 : Int32)) % (5 : Int32))), .val (.int (0 : Int32)), .val (.int (0 : Int32)), .val (.ref b168), .val (.ref b177), .val (.int ((x4 &&& (2147483647 : Int32)) % (3 : Int32))), .val .null, .unset, .unset, .unset] [])) _
          refine own_go (fun t_ k_ => XS.goto X183.here hx rfl (pc0 := 153) (pc' := 170) rfl (hb hby at_153) (by decide) (by decide) k_) ?_
          show own_Goes p e below (T183.setTop (mkF m 170 #[.val (.int x0), .val (.int x1), .val (.int x2), .val (.int x3), .val (.int x4), .val (.ref b1), .val (.ref b9), .val (.ref b17), .val (.int ((x1 &&& (2147483647 : Int32)) % (5 : Int32))), .val (.int ((x3 &&& (2147483647 : Int32)) % (5 : Int32))), .val (.int (0 : Int32)), .val (.int (0 : Int32)), .val (.ref b168), .val (.ref b177), .val (.int ((x4 &&& (2147483647 : Int32)) % (3 : Int32))), .val .null, .unset, .unset, .unset] [])) _
          refine own_go (fun t_ k_ => XS.iload X183.here hx rfl (hb hby at_170) rfl k_) ?_
          show own_Goes p e below (T183.setTop (mkF m 172 #[.val (.int x0), .val (.int x1), .val (.int x2), .val (.int x3), .val (.int x4), .val (.ref b1), .val (.ref b9), .val (.ref b17), .val (.int ((x1 &&& (2147483647 : Int32)) % (5 : Int32))), .val (.int ((x3 &&& (2147483647 : Int32)) % (5 : Int32))), .val (.int (0 : Int32)), .val (.int (0 : Int32)), .val (.ref b168), .val (.ref b177), .val (.int ((x4 &&& (2147483647 : Int32)) % (3 : Int32))), .val .null, .unset, .unset, .unset] [(.int ((x4 &&& (2147483647 : Int32)) % (3 : Int32)))])) _
          refine own_go (fun t_ k_ => XS.ifYes X183.here hx rfl (pc0 := 172) (pc' := 193) rfl (hb hby at_172) rfl ((if0 _ _).trans (feq hc186).2) (by decide) (by decide) k_) ?_
          show own_Goes p e below (T183.setTop (mkF m 193 #[.val (.int x0), .val (.int x1), .val (.int x2), .val (.int x3), .val (.int x4), .val (.ref b1), .val (.ref b9), .val (.ref b17), .val (.int ((x1 &&& (2147483647 : Int32)) % (5 : Int32))), .val (.int ((x3 &&& (2147483647 : Int32)) % (5 : Int32))), .val (.int (0 : Int32)), .val (.int (0 : Int32)), .val (.ref b168), .val (.ref b177), .val (.int ((x4 &&& (2147483647 : Int32)) % (3 : Int32))), .val .null, .unset, .unset, .unset] [])) _
          refine own_go (fun t_ k_ => XS.iconst X183.here hx rfl (hb hby at_193) k_) ?_
          show own_Goes p e below (T183.setTop (mkF m 194 #[.val (.int x0), .val (.int x1), .val (.int x2), .val (.int x3), .val (.int x4), .val (.ref b1), .val (.ref b9), .val (.ref b17), .val (.int ((x1 &&& (2147483647 : Int32)) % (5 : Int32))), .val (.int ((x3 &&& (2147483647 : Int32)) % (5 : Int32))), .val (.int (0 : Int32)), .val (.int (0 : Int32)), .val (.ref b168), .val (.ref b177), .val (.int ((x4 &&& (2147483647 : Int32)) % (3 : Int32))), .val .null, .unset, .unset, .unset] [(.int (0 : Int32))])) _
          refine own_go (fun t_ k_ => XS.istore X183.here hx rfl (hb hby at_194) rfl (l' := #[.val (.int x0), .val (.int x1), .val (.int x2), .val (.int x3), .val (.int x4), .val (.ref b1), .val (.ref b9), .val (.ref b17), .val (.int ((x1 &&& (2147483647 : Int32)) % (5 : Int32))), .val (.int ((x3 &&& (2147483647 : Int32)) % (5 : Int32))), .val (.int (0 : Int32)), .val (.int (0 : Int32)), .val (.ref b168), .val (.ref b177), .val (.int ((x4 &&& (2147483647 : Int32)) % (3 : Int32))), .val .null, .val (.int (0 : Int32)), .unset, .unset]) rfl k_) ?_
          show own_Goes p e below (T183.setTop (mkF m 196 #[.val (.int x0), .val (.int x1), .val (.int x2), .val (.int x3), .val (.int x4), .val (.ref b1), .val (.ref b9), .val (.ref b17), .val (.int ((x1 &&& (2147483647 : Int32)) % (5 : Int32))), .val (.int ((x3 &&& (2147483647 : Int32)) % (5 : Int32))), .val (.int (0 : Int32)), .val (.int (0 : Int32)), .val (.ref b168), .val (.ref b177), .val (.int ((x4 &&& (2147483647 : Int32)) % (3 : Int32))), .val .null, .val (.int (0 : Int32)), .unset, .unset] [])) _
          refine own_go (fun t_ k_ => XS.aload X183.here hx rfl (hb hby at_196) rfl rfl k_) ?_
          show own_Goes p e below (T183.setTop (mkF m 198 #[.val (.int x0), .val (.int x1), .val (.int x2), .val (.int x3), .val (.int x4), .val (.ref b1), .val (.ref b9), .val (.ref b17), .val (.int ((x1 &&& (2147483647 : Int32)) % (5 : Int32))), .val (.int ((x3 &&& (2147483647 : Int32)) % (5 : Int32))), .val (.int (0 : Int32)), .val (.int (0 : Int32)), .val (.ref b168), .val (.ref b177), .val (.int ((x4 &&& (2147483647 : Int32)) % (3 : Int32))), .val .null, .val (.int (0 : Int32)), .unset, .unset] [(.ref b168)])) _
          refine own_go (fun t_ k_ => XS.aload X183.here hx rfl (hb hby at_198) rfl rfl k_) ?_
          show own_Goes p e below (T183.setTop (mkF m 200 #[.val (.int x0), .val (.int x1), .val (.int x2), .val (.int x3), .val (.int x4), .val (.ref b1), .val (.ref b9), .val (.ref b17), .val (.int ((x1 &&& (2147483647 : Int32)) % (5 : Int32))), .val (.int ((x3 &&& (2147483647 : Int32)) % (5 : Int32))), .val (.int (0 : Int32)), .val (.int (0 : Int32)), .val (.ref b168), .val (.ref b177), .val (.int ((x4 &&& (2147483647 : Int32)) % (3 : Int32))), .val .null, .val (.int (0 : Int32)), .unset, .unset] [.null, (.ref b168)])) _
          have f205 := (((A168.keep Kc174).ext E177).keep Kc183)
          obtain ⟨cqiv206, kqiv206, qiv206a, qiv206b, qiv206c⟩ := isOf hZ183 e183 f205
          obtain ⟨_, _, ⟨T207, L207, k207, n207⟩, -, X207, ⟨Lc207, hQ207, l207, y207, z207⟩, st207⟩ := X183.virtualBack hx (y := own_m14) (z := own_m14) hown183 (mvT hZ183 (hw _ (List.mem_of_getElem? (i := 72) rfl))) (mvT hZ183 (hw _ (List.mem_of_getElem? (i := 73) rfl))) (notFace_of_selects (args := #[]) (mvT hZ183 (hw _ (List.mem_of_getElem? (i := 75) rfl)))) (mvT hZ183 (hw _ (List.mem_of_getElem? (i := 75) rfl))) (mvT hZ183 (hw _ (List.mem_of_getElem? (i := 74) rfl))) (by decide) (backOf (W := 0) (own_eqN l Z a0 hw [] b168 h183 n0 O184) hZ183 (hw _ (List.mem_of_getElem? (i := 76) rfl)) (hw _ (List.mem_of_getElem? (i := 48) rfl)) (by decide) (by decide)) qiv206a qiv206c (g := (mkF m 200 #[.val (.int x0), .val (.int x1), .val (.int x2), .val (.int x3), .val (.int x4), .val (.ref b1), .val (.ref b9), .val (.ref b17), .val (.int ((x1 &&& (2147483647 : Int32)) % (5 : Int32))), .val (.int ((x3 &&& (2147483647 : Int32)) % (5 : Int32))), .val (.int (0 : Int32)), .val (.int (0 : Int32)), .val (.ref b168), .val (.ref b177), .val (.int ((x4 &&& (2147483647 : Int32)) % (3 : Int32))), .val .null, .val (.int (0 : Int32)), .unset, .unset] [.null, (.ref b168)])) rfl (by rw [hml]; rfl) (Steps.refl _) (argsL := [.null]) (rest := []) (lenOf own_pd_13 rfl) rfl (by show 2 * 0 + _ ≤ _; exact Nat.le_of_eq rfl) (hb hby at_200) (fun _ _ => ⟨rfl, e183, (by decide : 17 + 0 ≤ _), (by decide : 200 + 0 ≤ _)⟩)
          dsimp only [Pt.U, Pt.locs, Pt.cells, Pt.slots] at X207 l207 y207 z207 st207 hQ207
          subst l207 y207 z207
          obtain ⟨Nc207, e207, rfl⟩ := hQ207
          have N207 := Fr.app N183 Nc207
          refine own_goS st207 ?_
          show own_Goes p e below (T207.setTop (mkF m 203 #[.val (.int x0), .val (.int x1), .val (.int x2), .val (.int x3), .val (.int x4), .val (.ref b1), .val (.ref b9), .val (.ref b17), .val (.int ((x1 &&& (2147483647 : Int32)) % (5 : Int32))), .val (.int ((x3 &&& (2147483647 : Int32)) % (5 : Int32))), .val (.int (0 : Int32)), .val (.int (0 : Int32)), .val (.ref b168), .val (.ref b177), .val (.int ((x4 &&& (2147483647 : Int32)) % (3 : Int32))), .val .null, .val (.int (0 : Int32)), .unset, .unset] [(.int (0 : Int32))])) _
          refine own_go (fun t_ k_ => XS.istore X207.here hx rfl (hb hby at_203) rfl (l' := #[.val (.int x0), .val (.int x1), .val (.int x2), .val (.int x3), .val (.int x4), .val (.ref b1), .val (.ref b9), .val (.ref b17), .val (.int ((x1 &&& (2147483647 : Int32)) % (5 : Int32))), .val (.int ((x3 &&& (2147483647 : Int32)) % (5 : Int32))), .val (.int (0 : Int32)), .val (.int (0 : Int32)), .val (.ref b168), .val (.ref b177), .val (.int ((x4 &&& (2147483647 : Int32)) % (3 : Int32))), .val .null, .val (.int (0 : Int32)), .val (.int (0 : Int32)), .unset]) rfl k_) ?_
          show own_Goes p e below (T207.setTop (mkF m 205 #[.val (.int x0), .val (.int x1), .val (.int x2), .val (.int x3), .val (.int x4), .val (.ref b1), .val (.ref b9), .val (.ref b17), .val (.int ((x1 &&& (2147483647 : Int32)) % (5 : Int32))), .val (.int ((x3 &&& (2147483647 : Int32)) % (5 : Int32))), .val (.int (0 : Int32)), .val (.int (0 : Int32)), .val (.ref b168), .val (.ref b177), .val (.int ((x4 &&& (2147483647 : Int32)) % (3 : Int32))), .val .null, .val (.int (0 : Int32)), .val (.int (0 : Int32)), .unset] [])) _
          refine own_go (fun t_ k_ => XS.aload X207.here hx rfl (hb hby at_205) rfl rfl k_) ?_
          show own_Goes p e below (T207.setTop (mkF m 207 #[.val (.int x0), .val (.int x1), .val (.int x2), .val (.int x3), .val (.int x4), .val (.ref b1), .val (.ref b9), .val (.ref b17), .val (.int ((x1 &&& (2147483647 : Int32)) % (5 : Int32))), .val (.int ((x3 &&& (2147483647 : Int32)) % (5 : Int32))), .val (.int (0 : Int32)), .val (.int (0 : Int32)), .val (.ref b168), .val (.ref b177), .val (.int ((x4 &&& (2147483647 : Int32)) % (3 : Int32))), .val .null, .val (.int (0 : Int32)), .val (.int (0 : Int32)), .unset] [(.ref b168)])) _
          refine own_go (fun t_ k_ => XS.aload X207.here hx rfl (hb hby at_207) rfl rfl k_) ?_
          show own_Goes p e below (T207.setTop (mkF m 209 #[.val (.int x0), .val (.int x1), .val (.int x2), .val (.int x3), .val (.int x4), .val (.ref b1), .val (.ref b9), .val (.ref b17), .val (.int ((x1 &&& (2147483647 : Int32)) % (5 : Int32))), .val (.int ((x3 &&& (2147483647 : Int32)) % (5 : Int32))), .val (.int (0 : Int32)), .val (.int (0 : Int32)), .val (.ref b168), .val (.ref b177), .val (.int ((x4 &&& (2147483647 : Int32)) % (3 : Int32))), .val .null, .val (.int (0 : Int32)), .val (.int (0 : Int32)), .unset] [(.ref b168), (.ref b168)])) _
          have f208 := ((c174_0.ext E177).keep Kc183 (ninS (own_ne (a := b168) (b := b177) (by omega)) nin0))
          have f209 := ((c174_1.ext E177).keep Kc183 (ninS (own_ne (a := b168) (b := b177) (by omega)) nin0))
          obtain ⟨cqiv210, kqiv210, qiv210a, qiv210b, qiv210c⟩ := isOf hZ183 e207 f205
          obtain ⟨_, _, ⟨T211, L211, k211, n211⟩, -, X211, ⟨Lc211, hQ211, l211, y211, z211⟩, st211⟩ := X207.virtualBack hx (y := own_m14) (z := own_m14) hown183 (mvT hZ183 (hw _ (List.mem_of_getElem? (i := 72) rfl))) (mvT hZ183 (hw _ (List.mem_of_getElem? (i := 73) rfl))) (notFace_of_selects (args := #[]) (mvT hZ183 (hw _ (List.mem_of_getElem? (i := 75) rfl)))) (mvT hZ183 (hw _ (List.mem_of_getElem? (i := 75) rfl))) (mvT hZ183 (hw _ (List.mem_of_getElem? (i := 74) rfl))) (by decide) (backOf (W := 0) (own_eqT l Z a0 hw [] b168 b168 b17 b17 r_172 r_172 h183 n0 O184 f205 f208 f208 f209 f209 (show b17 = b17 from rfl) (show r_172 = r_172 from rfl)) hZ183 (hw _ (List.mem_of_getElem? (i := 76) rfl)) (hw _ (List.mem_of_getElem? (i := 48) rfl)) (by decide) (by decide)) qiv210a qiv210c (g := (mkF m 209 #[.val (.int x0), .val (.int x1), .val (.int x2), .val (.int x3), .val (.int x4), .val (.ref b1), .val (.ref b9), .val (.ref b17), .val (.int ((x1 &&& (2147483647 : Int32)) % (5 : Int32))), .val (.int ((x3 &&& (2147483647 : Int32)) % (5 : Int32))), .val (.int (0 : Int32)), .val (.int (0 : Int32)), .val (.ref b168), .val (.ref b177), .val (.int ((x4 &&& (2147483647 : Int32)) % (3 : Int32))), .val .null, .val (.int (0 : Int32)), .val (.int (0 : Int32)), .unset] [(.ref b168), (.ref b168)])) rfl (by rw [hml]; rfl) (Steps.refl _) (argsL := [(.ref b168)]) (rest := []) (lenOf own_pd_13 rfl) rfl (by show 2 * 0 + _ ≤ _; exact Nat.le_of_eq rfl) (hb hby at_209) (fun _ _ => ⟨rfl, e207, (by decide : 17 + 0 ≤ _), (by decide : 200 + 0 ≤ _)⟩)
          dsimp only [Pt.U, Pt.locs, Pt.cells, Pt.slots] at X211 l211 y211 z211 st211 hQ211
          subst l211 y211 z211
          obtain ⟨Nc211, e211, rfl⟩ := hQ211
          have N211 := Fr.app N207 Nc211
          refine own_goS st211 ?_
          show own_Goes p e below (T211.setTop (mkF m 212 #[.val (.int x0), .val (.int x1), .val (.int x2), .val (.int x3), .val (.int x4), .val (.ref b1), .val (.ref b9), .val (.ref b17), .val (.int ((x1 &&& (2147483647 : Int32)) % (5 : Int32))), .val (.int ((x3 &&& (2147483647 : Int32)) % (5 : Int32))), .val (.int (0 : Int32)), .val (.int (0 : Int32)), .val (.ref b168), .val (.ref b177), .val (.int ((x4 &&& (2147483647 : Int32)) % (3 : Int32))), .val .null, .val (.int (0 : Int32)), .val (.int (0 : Int32)), .unset] [(.int (1 : Int32))])) _
          refine own_go (fun t_ k_ => XS.istore X211.here hx rfl (hb hby at_212) rfl (l' := #[.val (.int x0), .val (.int x1), .val (.int x2), .val (.int x3), .val (.int x4), .val (.ref b1), .val (.ref b9), .val (.ref b17), .val (.int ((x1 &&& (2147483647 : Int32)) % (5 : Int32))), .val (.int ((x3 &&& (2147483647 : Int32)) % (5 : Int32))), .val (.int (0 : Int32)), .val (.int (0 : Int32)), .val (.ref b168), .val (.ref b177), .val (.int ((x4 &&& (2147483647 : Int32)) % (3 : Int32))), .val .null, .val (.int (0 : Int32)), .val (.int (0 : Int32)), .val (.int (1 : Int32))]) rfl k_) ?_
          show own_Goes p e below (T211.setTop (mkF m 214 #[.val (.int x0), .val (.int x1), .val (.int x2), .val (.int x3), .val (.int x4), .val (.ref b1), .val (.ref b9), .val (.ref b17), .val (.int ((x1 &&& (2147483647 : Int32)) % (5 : Int32))), .val (.int ((x3 &&& (2147483647 : Int32)) % (5 : Int32))), .val (.int (0 : Int32)), .val (.int (0 : Int32)), .val (.ref b168), .val (.ref b177), .val (.int ((x4 &&& (2147483647 : Int32)) % (3 : Int32))), .val .null, .val (.int (0 : Int32)), .val (.int (0 : Int32)), .val (.int (1 : Int32))] [])) _
          refine own_go (fun t_ k_ => XS.iload X211.here hx rfl (hb hby at_214) rfl k_) ?_
          show own_Goes p e below (T211.setTop (mkF m 216 #[.val (.int x0), .val (.int x1), .val (.int x2), .val (.int x3), .val (.int x4), .val (.ref b1), .val (.ref b9), .val (.ref b17), .val (.int ((x1 &&& (2147483647 : Int32)) % (5 : Int32))), .val (.int ((x3 &&& (2147483647 : Int32)) % (5 : Int32))), .val (.int (0 : Int32)), .val (.int (0 : Int32)), .val (.ref b168), .val (.ref b177), .val (.int ((x4 &&& (2147483647 : Int32)) % (3 : Int32))), .val .null, .val (.int (0 : Int32)), .val (.int (0 : Int32)), .val (.int (1 : Int32))] [(.int (0 : Int32))])) _
          refine own_go (fun t_ k_ => XS.iload X211.here hx rfl (hb hby at_216) rfl k_) ?_
          show own_Goes p e below (T211.setTop (mkF m 218 #[.val (.int x0), .val (.int x1), .val (.int x2), .val (.int x3), .val (.int x4), .val (.ref b1), .val (.ref b9), .val (.ref b17), .val (.int ((x1 &&& (2147483647 : Int32)) % (5 : Int32))), .val (.int ((x3 &&& (2147483647 : Int32)) % (5 : Int32))), .val (.int (0 : Int32)), .val (.int (0 : Int32)), .val (.ref b168), .val (.ref b177), .val (.int ((x4 &&& (2147483647 : Int32)) % (3 : Int32))), .val .null, .val (.int (0 : Int32)), .val (.int (0 : Int32)), .val (.int (1 : Int32))] [(.int (0 : Int32)), (.int (0 : Int32))])) _
          refine own_go (fun t_ k_ => XS.icmpNo X211.here hx rfl (hb hby at_218) rfl (teq (show ((0 : Int32) = (0 : Int32)) from by decide)).2 k_) ?_
          show own_Goes p e below (T211.setTop (mkF m 221 #[.val (.int x0), .val (.int x1), .val (.int x2), .val (.int x3), .val (.int x4), .val (.ref b1), .val (.ref b9), .val (.ref b17), .val (.int ((x1 &&& (2147483647 : Int32)) % (5 : Int32))), .val (.int ((x3 &&& (2147483647 : Int32)) % (5 : Int32))), .val (.int (0 : Int32)), .val (.int (0 : Int32)), .val (.ref b168), .val (.ref b177), .val (.int ((x4 &&& (2147483647 : Int32)) % (3 : Int32))), .val .null, .val (.int (0 : Int32)), .val (.int (0 : Int32)), .val (.int (1 : Int32))] [])) _
          refine own_go (fun t_ k_ => XS.iload X211.here hx rfl (hb hby at_221) rfl k_) ?_
          show own_Goes p e below (T211.setTop (mkF m 223 #[.val (.int x0), .val (.int x1), .val (.int x2), .val (.int x3), .val (.int x4), .val (.ref b1), .val (.ref b9), .val (.ref b17), .val (.int ((x1 &&& (2147483647 : Int32)) % (5 : Int32))), .val (.int ((x3 &&& (2147483647 : Int32)) % (5 : Int32))), .val (.int (0 : Int32)), .val (.int (0 : Int32)), .val (.ref b168), .val (.ref b177), .val (.int ((x4 &&& (2147483647 : Int32)) % (3 : Int32))), .val .null, .val (.int (0 : Int32)), .val (.int (0 : Int32)), .val (.int (1 : Int32))] [(.int (1 : Int32))])) _
          refine own_go (fun t_ k_ => XS.ifNo X211.here hx rfl (hb hby at_223) rfl ((if0 _ _).trans (feq (show ¬ ((1 : Int32) = (0 : Int32)) from by decide)).1) k_) ?_
          show own_Goes p e below (T211.setTop (mkF m 226 #[.val (.int x0), .val (.int x1), .val (.int x2), .val (.int x3), .val (.int x4), .val (.ref b1), .val (.ref b9), .val (.ref b17), .val (.int ((x1 &&& (2147483647 : Int32)) % (5 : Int32))), .val (.int ((x3 &&& (2147483647 : Int32)) % (5 : Int32))), .val (.int (0 : Int32)), .val (.int (0 : Int32)), .val (.ref b168), .val (.ref b177), .val (.int ((x4 &&& (2147483647 : Int32)) % (3 : Int32))), .val .null, .val (.int (0 : Int32)), .val (.int (0 : Int32)), .val (.int (1 : Int32))] [])) _
          refine own_go (fun t_ k_ => XS.iconst X211.here hx rfl (hb hby at_226) k_) ?_
          show own_Goes p e below (T211.setTop (mkF m 227 #[.val (.int x0), .val (.int x1), .val (.int x2), .val (.int x3), .val (.int x4), .val (.ref b1), .val (.ref b9), .val (.ref b17), .val (.int ((x1 &&& (2147483647 : Int32)) % (5 : Int32))), .val (.int ((x3 &&& (2147483647 : Int32)) % (5 : Int32))), .val (.int (0 : Int32)), .val (.int (0 : Int32)), .val (.ref b168), .val (.ref b177), .val (.int ((x4 &&& (2147483647 : Int32)) % (3 : Int32))), .val .null, .val (.int (0 : Int32)), .val (.int (0 : Int32)), .val (.int (1 : Int32))] [(.int (1 : Int32))])) _
          refine own_go (fun t_ k_ => XS.goto X211.here hx rfl (pc0 := 227) (pc' := 231) rfl (hb hby at_227) (by decide) (by decide) k_) ?_
          show own_Goes p e below (T211.setTop (mkF m 231 #[.val (.int x0), .val (.int x1), .val (.int x2), .val (.int x3), .val (.int x4), .val (.ref b1), .val (.ref b9), .val (.ref b17), .val (.int ((x1 &&& (2147483647 : Int32)) % (5 : Int32))), .val (.int ((x3 &&& (2147483647 : Int32)) % (5 : Int32))), .val (.int (0 : Int32)), .val (.int (0 : Int32)), .val (.ref b168), .val (.ref b177), .val (.int ((x4 &&& (2147483647 : Int32)) % (3 : Int32))), .val .null, .val (.int (0 : Int32)), .val (.int (0 : Int32)), .val (.int (1 : Int32))] [(.int (1 : Int32))])) _
          refine own_endW X211 hS183 (show _ ≤ T211.heap.size by rw [e211]; exact hk183) (v := (some (.int (1 : Int32)))) (fun h => by rw [hret] at h; cases h) hlk (by decide) (by decide) ?_ (fun fs hr => retOut X211 hx hret rfl (Or.inl ⟨rfl, Or.inr (Or.inl rfl), _, rfl⟩) (hb hby at_231) hr)
          show Q_rm0 Z x0 x1 x2 x3 x4 gw0 gw1 gw2 gw3 gw4 h0 n0 _ T211.heap _
          rw [e211]
          exact ⟨N211, trivial, rfl⟩
        · refine own_go (fun t_ k_ => XS.icmpYes X183.here hx rfl (pc0 := 147) (pc' := 156) rfl (hb hby at_147) rfl (feq hc204).2 (by decide) (by decide) k_) ?_
          show own_Goes p e below (T183.setTop (mkF m 156 #[.val (.int x0), .val (.int x1), .val (.int x2), .val (.int x3), .val (.int x4), .val (.ref b1), .val (.ref b9), .val (.ref b17), .val (.int ((x1 &&& (2147483647 : Int32)) % (5 : Int32))), .val (.int ((x3 &&& (2147483647 : Int32)) % (5 : Int32))), .val (.int (0 : Int32)), .val (.int (0 : Int32)), .val (.ref b168), .val (.ref b177), .val (.int ((x4 &&& (2147483647 : Int32)) % (3 : Int32))), .unset, .unset, .unset, .unset] [])) _
          refine own_go (fun t_ k_ => XS.iload X183.here hx rfl (hb hby at_156) rfl k_) ?_
          show own_Goes p e below (T183.setTop (mkF m 158 #[.val (.int x0), .val (.int x1), .val (.int x2), .val (.int x3), .val (.int x4), .val (.ref b1), .val (.ref b9), .val (.ref b17), .val (.int ((x1 &&& (2147483647 : Int32)) % (5 : Int32))), .val (.int ((x3 &&& (2147483647 : Int32)) % (5 : Int32))), .val (.int (0 : Int32)), .val (.int (0 : Int32)), .val (.ref b168), .val (.ref b177), .val (.int ((x4 &&& (2147483647 : Int32)) % (3 : Int32))), .unset, .unset, .unset, .unset] [(.int (0 : Int32))])) _
          refine own_go (fun t_ k_ => XS.ifYes X183.here hx rfl (pc0 := 158) (pc' := 166) rfl (hb hby at_158) rfl ((if0 _ _).trans (teq (show ((0 : Int32) = (0 : Int32)) from by decide)).1) (by decide) (by decide) k_) ?_
          show own_Goes p e below (T183.setTop (mkF m 166 #[.val (.int x0), .val (.int x1), .val (.int x2), .val (.int x3), .val (.int x4), .val (.ref b1), .val (.ref b9), .val (.ref b17), .val (.int ((x1 &&& (2147483647 : Int32)) % (5 : Int32))), .val (.int ((x3 &&& (2147483647 : Int32)) % (5 : Int32))), .val (.int (0 : Int32)), .val (.int (0 : Int32)), .val (.ref b168), .val (.ref b177), .val (.int ((x4 &&& (2147483647 : Int32)) % (3 : Int32))), .unset, .unset, .unset, .unset] [])) _
          refine own_go (fun t_ k_ => XS.aload X183.here hx rfl (hb hby at_166) rfl rfl k_) ?_
          show own_Goes p e below (T183.setTop (mkF m 168 #[.val (.int x0), .val (.int x1), .val (.int x2), .val (.int x3), .val (.int x4), .val (.ref b1), .val (.ref b9), .val (.ref b17), .val (.int ((x1 &&& (2147483647 : Int32)) % (5 : Int32))), .val (.int ((x3 &&& (2147483647 : Int32)) % (5 : Int32))), .val (.int (0 : Int32)), .val (.int (0 : Int32)), .val (.ref b168), .val (.ref b177), .val (.int ((x4 &&& (2147483647 : Int32)) % (3 : Int32))), .unset, .unset, .unset, .unset] [(.ref b17)])) _
          refine own_go (fun t_ k_ => XS.astore X183.here hx rfl (hb hby at_168) rfl rfl (l' := #[.val (.int x0), .val (.int x1), .val (.int x2), .val (.int x3), .val (.int x4), .val (.ref b1), .val (.ref b9), .val (.ref b17), .val (.int ((x1 &&& (2147483647 : Int32)) % (5 : Int32))), .val (.int ((x3 &&& (2147483647 : Int32)) % (5 : Int32))), .val (.int (0 : Int32)), .val (.int (0 : Int32)), .val (.ref b168), .val (.ref b177), .val (.int ((x4 &&& (2147483647 : Int32)) % (3 : Int32))), .val (.ref b17), .unset, .unset, .unset]) rfl k_) ?_
          show own_Goes p e below (T183.setTop (mkF m 170 #[.val (.int x0), .val (.int x1), .val (.int x2), .val (.int x3), .val (.int x4), .val (.ref b1), .val (.ref b9), .val (.ref b17), .val (.int ((x1 &&& (2147483647 : Int32)) % (5 : Int32))), .val (.int ((x3 &&& (2147483647 : Int32)) % (5 : Int32))), .val (.int (0 : Int32)), .val (.int (0 : Int32)), .val (.ref b168), .val (.ref b177), .val (.int ((x4 &&& (2147483647 : Int32)) % (3 : Int32))), .val (.ref b17), .unset, .unset, .unset] [])) _
          refine own_go (fun t_ k_ => XS.iload X183.here hx rfl (hb hby at_170) rfl k_) ?_
          show own_Goes p e below (T183.setTop (mkF m 172 #[.val (.int x0), .val (.int x1), .val (.int x2), .val (.int x3), .val (.int x4), .val (.ref b1), .val (.ref b9), .val (.ref b17), .val (.int ((x1 &&& (2147483647 : Int32)) % (5 : Int32))), .val (.int ((x3 &&& (2147483647 : Int32)) % (5 : Int32))), .val (.int (0 : Int32)), .val (.int (0 : Int32)), .val (.ref b168), .val (.ref b177), .val (.int ((x4 &&& (2147483647 : Int32)) % (3 : Int32))), .val (.ref b17), .unset, .unset, .unset] [(.int ((x4 &&& (2147483647 : Int32)) % (3 : Int32)))])) _
          refine own_go (fun t_ k_ => XS.ifYes X183.here hx rfl (pc0 := 172) (pc' := 193) rfl (hb hby at_172) rfl ((if0 _ _).trans (feq hc186).2) (by decide) (by decide) k_) ?_
          show own_Goes p e below (T183.setTop (mkF m 193 #[.val (.int x0), .val (.int x1), .val (.int x2), .val (.int x3), .val (.int x4), .val (.ref b1), .val (.ref b9), .val (.ref b17), .val (.int ((x1 &&& (2147483647 : Int32)) % (5 : Int32))), .val (.int ((x3 &&& (2147483647 : Int32)) % (5 : Int32))), .val (.int (0 : Int32)), .val (.int (0 : Int32)), .val (.ref b168), .val (.ref b177), .val (.int ((x4 &&& (2147483647 : Int32)) % (3 : Int32))), .val (.ref b17), .unset, .unset, .unset] [])) _
          refine own_go (fun t_ k_ => XS.iconst X183.here hx rfl (hb hby at_193) k_) ?_
          show own_Goes p e below (T183.setTop (mkF m 194 #[.val (.int x0), .val (.int x1), .val (.int x2), .val (.int x3), .val (.int x4), .val (.ref b1), .val (.ref b9), .val (.ref b17), .val (.int ((x1 &&& (2147483647 : Int32)) % (5 : Int32))), .val (.int ((x3 &&& (2147483647 : Int32)) % (5 : Int32))), .val (.int (0 : Int32)), .val (.int (0 : Int32)), .val (.ref b168), .val (.ref b177), .val (.int ((x4 &&& (2147483647 : Int32)) % (3 : Int32))), .val (.ref b17), .unset, .unset, .unset] [(.int (0 : Int32))])) _
          refine own_go (fun t_ k_ => XS.istore X183.here hx rfl (hb hby at_194) rfl (l' := #[.val (.int x0), .val (.int x1), .val (.int x2), .val (.int x3), .val (.int x4), .val (.ref b1), .val (.ref b9), .val (.ref b17), .val (.int ((x1 &&& (2147483647 : Int32)) % (5 : Int32))), .val (.int ((x3 &&& (2147483647 : Int32)) % (5 : Int32))), .val (.int (0 : Int32)), .val (.int (0 : Int32)), .val (.ref b168), .val (.ref b177), .val (.int ((x4 &&& (2147483647 : Int32)) % (3 : Int32))), .val (.ref b17), .val (.int (0 : Int32)), .unset, .unset]) rfl k_) ?_
          show own_Goes p e below (T183.setTop (mkF m 196 #[.val (.int x0), .val (.int x1), .val (.int x2), .val (.int x3), .val (.int x4), .val (.ref b1), .val (.ref b9), .val (.ref b17), .val (.int ((x1 &&& (2147483647 : Int32)) % (5 : Int32))), .val (.int ((x3 &&& (2147483647 : Int32)) % (5 : Int32))), .val (.int (0 : Int32)), .val (.int (0 : Int32)), .val (.ref b168), .val (.ref b177), .val (.int ((x4 &&& (2147483647 : Int32)) % (3 : Int32))), .val (.ref b17), .val (.int (0 : Int32)), .unset, .unset] [])) _
          refine own_go (fun t_ k_ => XS.aload X183.here hx rfl (hb hby at_196) rfl rfl k_) ?_
          show own_Goes p e below (T183.setTop (mkF m 198 #[.val (.int x0), .val (.int x1), .val (.int x2), .val (.int x3), .val (.int x4), .val (.ref b1), .val (.ref b9), .val (.ref b17), .val (.int ((x1 &&& (2147483647 : Int32)) % (5 : Int32))), .val (.int ((x3 &&& (2147483647 : Int32)) % (5 : Int32))), .val (.int (0 : Int32)), .val (.int (0 : Int32)), .val (.ref b168), .val (.ref b177), .val (.int ((x4 &&& (2147483647 : Int32)) % (3 : Int32))), .val (.ref b17), .val (.int (0 : Int32)), .unset, .unset] [(.ref b168)])) _
          refine own_go (fun t_ k_ => XS.aload X183.here hx rfl (hb hby at_198) rfl rfl k_) ?_
          show own_Goes p e below (T183.setTop (mkF m 200 #[.val (.int x0), .val (.int x1), .val (.int x2), .val (.int x3), .val (.int x4), .val (.ref b1), .val (.ref b9), .val (.ref b17), .val (.int ((x1 &&& (2147483647 : Int32)) % (5 : Int32))), .val (.int ((x3 &&& (2147483647 : Int32)) % (5 : Int32))), .val (.int (0 : Int32)), .val (.int (0 : Int32)), .val (.ref b168), .val (.ref b177), .val (.int ((x4 &&& (2147483647 : Int32)) % (3 : Int32))), .val (.ref b17), .val (.int (0 : Int32)), .unset, .unset] [(.ref b17), (.ref b168)])) _
          have f212 := (f182.keep Kc183)
          have f213 := (((A168.keep Kc174).ext E177).keep Kc183)
          obtain ⟨cqiv214, kqiv214, qiv214a, qiv214b, qiv214c⟩ := isOf hZ183 e183 f213
          obtain ⟨_, _, ⟨T215, L215, k215, n215⟩, -, X215, ⟨Lc215, hQ215, l215, y215, z215⟩, st215⟩ := X183.virtualBack hx (y := own_m14) (z := own_m14) hown183 (mvT hZ183 (hw _ (List.mem_of_getElem? (i := 72) rfl))) (mvT hZ183 (hw _ (List.mem_of_getElem? (i := 73) rfl))) (notFace_of_selects (args := #[]) (mvT hZ183 (hw _ (List.mem_of_getElem? (i := 75) rfl)))) (mvT hZ183 (hw _ (List.mem_of_getElem? (i := 75) rfl))) (mvT hZ183 (hw _ (List.mem_of_getElem? (i := 74) rfl))) (by decide) (backOf (W := 0) (own_eqO l Z a0 hw [] b168 b17 h183 n0 O184 f212) hZ183 (hw _ (List.mem_of_getElem? (i := 76) rfl)) (hw _ (List.mem_of_getElem? (i := 48) rfl)) (by decide) (by decide)) qiv214a qiv214c (g := (mkF m 200 #[.val (.int x0), .val (.int x1), .val (.int x2), .val (.int x3), .val (.int x4), .val (.ref b1), .val (.ref b9), .val (.ref b17), .val (.int ((x1 &&& (2147483647 : Int32)) % (5 : Int32))), .val (.int ((x3 &&& (2147483647 : Int32)) % (5 : Int32))), .val (.int (0 : Int32)), .val (.int (0 : Int32)), .val (.ref b168), .val (.ref b177), .val (.int ((x4 &&& (2147483647 : Int32)) % (3 : Int32))), .val (.ref b17), .val (.int (0 : Int32)), .unset, .unset] [(.ref b17), (.ref b168)])) rfl (by rw [hml]; rfl) (Steps.refl _) (argsL := [(.ref b17)]) (rest := []) (lenOf own_pd_13 rfl) rfl (by show 2 * 0 + _ ≤ _; exact Nat.le_of_eq rfl) (hb hby at_200) (fun _ _ => ⟨rfl, e183, (by decide : 17 + 0 ≤ _), (by decide : 200 + 0 ≤ _)⟩)
          dsimp only [Pt.U, Pt.locs, Pt.cells, Pt.slots] at X215 l215 y215 z215 st215 hQ215
          subst l215 y215 z215
          obtain ⟨Nc215, e215, rfl⟩ := hQ215
          have N215 := Fr.app N183 Nc215
          refine own_goS st215 ?_
          show own_Goes p e below (T215.setTop (mkF m 203 #[.val (.int x0), .val (.int x1), .val (.int x2), .val (.int x3), .val (.int x4), .val (.ref b1), .val (.ref b9), .val (.ref b17), .val (.int ((x1 &&& (2147483647 : Int32)) % (5 : Int32))), .val (.int ((x3 &&& (2147483647 : Int32)) % (5 : Int32))), .val (.int (0 : Int32)), .val (.int (0 : Int32)), .val (.ref b168), .val (.ref b177), .val (.int ((x4 &&& (2147483647 : Int32)) % (3 : Int32))), .val (.ref b17), .val (.int (0 : Int32)), .unset, .unset] [(.int (0 : Int32))])) _
          refine own_go (fun t_ k_ => XS.istore X215.here hx rfl (hb hby at_203) rfl (l' := #[.val (.int x0), .val (.int x1), .val (.int x2), .val (.int x3), .val (.int x4), .val (.ref b1), .val (.ref b9), .val (.ref b17), .val (.int ((x1 &&& (2147483647 : Int32)) % (5 : Int32))), .val (.int ((x3 &&& (2147483647 : Int32)) % (5 : Int32))), .val (.int (0 : Int32)), .val (.int (0 : Int32)), .val (.ref b168), .val (.ref b177), .val (.int ((x4 &&& (2147483647 : Int32)) % (3 : Int32))), .val (.ref b17), .val (.int (0 : Int32)), .val (.int (0 : Int32)), .unset]) rfl k_) ?_
          show own_Goes p e below (T215.setTop (mkF m 205 #[.val (.int x0), .val (.int x1), .val (.int x2), .val (.int x3), .val (.int x4), .val (.ref b1), .val (.ref b9), .val (.ref b17), .val (.int ((x1 &&& (2147483647 : Int32)) % (5 : Int32))), .val (.int ((x3 &&& (2147483647 : Int32)) % (5 : Int32))), .val (.int (0 : Int32)), .val (.int (0 : Int32)), .val (.ref b168), .val (.ref b177), .val (.int ((x4 &&& (2147483647 : Int32)) % (3 : Int32))), .val (.ref b17), .val (.int (0 : Int32)), .val (.int (0 : Int32)), .unset] [])) _
          refine own_go (fun t_ k_ => XS.aload X215.here hx rfl (hb hby at_205) rfl rfl k_) ?_
          show own_Goes p e below (T215.setTop (mkF m 207 #[.val (.int x0), .val (.int x1), .val (.int x2), .val (.int x3), .val (.int x4), .val (.ref b1), .val (.ref b9), .val (.ref b17), .val (.int ((x1 &&& (2147483647 : Int32)) % (5 : Int32))), .val (.int ((x3 &&& (2147483647 : Int32)) % (5 : Int32))), .val (.int (0 : Int32)), .val (.int (0 : Int32)), .val (.ref b168), .val (.ref b177), .val (.int ((x4 &&& (2147483647 : Int32)) % (3 : Int32))), .val (.ref b17), .val (.int (0 : Int32)), .val (.int (0 : Int32)), .unset] [(.ref b168)])) _
          refine own_go (fun t_ k_ => XS.aload X215.here hx rfl (hb hby at_207) rfl rfl k_) ?_
          show own_Goes p e below (T215.setTop (mkF m 209 #[.val (.int x0), .val (.int x1), .val (.int x2), .val (.int x3), .val (.int x4), .val (.ref b1), .val (.ref b9), .val (.ref b17), .val (.int ((x1 &&& (2147483647 : Int32)) % (5 : Int32))), .val (.int ((x3 &&& (2147483647 : Int32)) % (5 : Int32))), .val (.int (0 : Int32)), .val (.int (0 : Int32)), .val (.ref b168), .val (.ref b177), .val (.int ((x4 &&& (2147483647 : Int32)) % (3 : Int32))), .val (.ref b17), .val (.int (0 : Int32)), .val (.int (0 : Int32)), .unset] [(.ref b168), (.ref b168)])) _
          have f216 := ((c174_0.ext E177).keep Kc183 (ninS (own_ne (a := b168) (b := b177) (by omega)) nin0))
          have f217 := ((c174_1.ext E177).keep Kc183 (ninS (own_ne (a := b168) (b := b177) (by omega)) nin0))
          obtain ⟨cqiv218, kqiv218, qiv218a, qiv218b, qiv218c⟩ := isOf hZ183 e215 f213
          obtain ⟨_, _, ⟨T219, L219, k219, n219⟩, -, X219, ⟨Lc219, hQ219, l219, y219, z219⟩, st219⟩ := X215.virtualBack hx (y := own_m14) (z := own_m14) hown183 (mvT hZ183 (hw _ (List.mem_of_getElem? (i := 72) rfl))) (mvT hZ183 (hw _ (List.mem_of_getElem? (i := 73) rfl))) (notFace_of_selects (args := #[]) (mvT hZ183 (hw _ (List.mem_of_getElem? (i := 75) rfl)))) (mvT hZ183 (hw _ (List.mem_of_getElem? (i := 75) rfl))) (mvT hZ183 (hw _ (List.mem_of_getElem? (i := 74) rfl))) (by decide) (backOf (W := 0) (own_eqT l Z a0 hw [] b168 b168 b17 b17 r_172 r_172 h183 n0 O184 f213 f216 f216 f217 f217 (show b17 = b17 from rfl) (show r_172 = r_172 from rfl)) hZ183 (hw _ (List.mem_of_getElem? (i := 76) rfl)) (hw _ (List.mem_of_getElem? (i := 48) rfl)) (by decide) (by decide)) qiv218a qiv218c (g := (mkF m 209 #[.val (.int x0), .val (.int x1), .val (.int x2), .val (.int x3), .val (.int x4), .val (.ref b1), .val (.ref b9), .val (.ref b17), .val (.int ((x1 &&& (2147483647 : Int32)) % (5 : Int32))), .val (.int ((x3 &&& (2147483647 : Int32)) % (5 : Int32))), .val (.int (0 : Int32)), .val (.int (0 : Int32)), .val (.ref b168), .val (.ref b177), .val (.int ((x4 &&& (2147483647 : Int32)) % (3 : Int32))), .val (.ref b17), .val (.int (0 : Int32)), .val (.int (0 : Int32)), .unset] [(.ref b168), (.ref b168)])) rfl (by rw [hml]; rfl) (Steps.refl _) (argsL := [(.ref b168)]) (rest := []) (lenOf own_pd_13 rfl) rfl (by show 2 * 0 + _ ≤ _; exact Nat.le_of_eq rfl) (hb hby at_209) (fun _ _ => ⟨rfl, e215, (by decide : 17 + 0 ≤ _), (by decide : 200 + 0 ≤ _)⟩)
          dsimp only [Pt.U, Pt.locs, Pt.cells, Pt.slots] at X219 l219 y219 z219 st219 hQ219
          subst l219 y219 z219
          obtain ⟨Nc219, e219, rfl⟩ := hQ219
          have N219 := Fr.app N215 Nc219
          refine own_goS st219 ?_
          show own_Goes p e below (T219.setTop (mkF m 212 #[.val (.int x0), .val (.int x1), .val (.int x2), .val (.int x3), .val (.int x4), .val (.ref b1), .val (.ref b9), .val (.ref b17), .val (.int ((x1 &&& (2147483647 : Int32)) % (5 : Int32))), .val (.int ((x3 &&& (2147483647 : Int32)) % (5 : Int32))), .val (.int (0 : Int32)), .val (.int (0 : Int32)), .val (.ref b168), .val (.ref b177), .val (.int ((x4 &&& (2147483647 : Int32)) % (3 : Int32))), .val (.ref b17), .val (.int (0 : Int32)), .val (.int (0 : Int32)), .unset] [(.int (1 : Int32))])) _
          refine own_go (fun t_ k_ => XS.istore X219.here hx rfl (hb hby at_212) rfl (l' := #[.val (.int x0), .val (.int x1), .val (.int x2), .val (.int x3), .val (.int x4), .val (.ref b1), .val (.ref b9), .val (.ref b17), .val (.int ((x1 &&& (2147483647 : Int32)) % (5 : Int32))), .val (.int ((x3 &&& (2147483647 : Int32)) % (5 : Int32))), .val (.int (0 : Int32)), .val (.int (0 : Int32)), .val (.ref b168), .val (.ref b177), .val (.int ((x4 &&& (2147483647 : Int32)) % (3 : Int32))), .val (.ref b17), .val (.int (0 : Int32)), .val (.int (0 : Int32)), .val (.int (1 : Int32))]) rfl k_) ?_
          show own_Goes p e below (T219.setTop (mkF m 214 #[.val (.int x0), .val (.int x1), .val (.int x2), .val (.int x3), .val (.int x4), .val (.ref b1), .val (.ref b9), .val (.ref b17), .val (.int ((x1 &&& (2147483647 : Int32)) % (5 : Int32))), .val (.int ((x3 &&& (2147483647 : Int32)) % (5 : Int32))), .val (.int (0 : Int32)), .val (.int (0 : Int32)), .val (.ref b168), .val (.ref b177), .val (.int ((x4 &&& (2147483647 : Int32)) % (3 : Int32))), .val (.ref b17), .val (.int (0 : Int32)), .val (.int (0 : Int32)), .val (.int (1 : Int32))] [])) _
          refine own_go (fun t_ k_ => XS.iload X219.here hx rfl (hb hby at_214) rfl k_) ?_
          show own_Goes p e below (T219.setTop (mkF m 216 #[.val (.int x0), .val (.int x1), .val (.int x2), .val (.int x3), .val (.int x4), .val (.ref b1), .val (.ref b9), .val (.ref b17), .val (.int ((x1 &&& (2147483647 : Int32)) % (5 : Int32))), .val (.int ((x3 &&& (2147483647 : Int32)) % (5 : Int32))), .val (.int (0 : Int32)), .val (.int (0 : Int32)), .val (.ref b168), .val (.ref b177), .val (.int ((x4 &&& (2147483647 : Int32)) % (3 : Int32))), .val (.ref b17), .val (.int (0 : Int32)), .val (.int (0 : Int32)), .val (.int (1 : Int32))] [(.int (0 : Int32))])) _
          refine own_go (fun t_ k_ => XS.iload X219.here hx rfl (hb hby at_216) rfl k_) ?_
          show own_Goes p e below (T219.setTop (mkF m 218 #[.val (.int x0), .val (.int x1), .val (.int x2), .val (.int x3), .val (.int x4), .val (.ref b1), .val (.ref b9), .val (.ref b17), .val (.int ((x1 &&& (2147483647 : Int32)) % (5 : Int32))), .val (.int ((x3 &&& (2147483647 : Int32)) % (5 : Int32))), .val (.int (0 : Int32)), .val (.int (0 : Int32)), .val (.ref b168), .val (.ref b177), .val (.int ((x4 &&& (2147483647 : Int32)) % (3 : Int32))), .val (.ref b17), .val (.int (0 : Int32)), .val (.int (0 : Int32)), .val (.int (1 : Int32))] [(.int (0 : Int32)), (.int (0 : Int32))])) _
          refine own_go (fun t_ k_ => XS.icmpNo X219.here hx rfl (hb hby at_218) rfl (teq (show ((0 : Int32) = (0 : Int32)) from by decide)).2 k_) ?_
          show own_Goes p e below (T219.setTop (mkF m 221 #[.val (.int x0), .val (.int x1), .val (.int x2), .val (.int x3), .val (.int x4), .val (.ref b1), .val (.ref b9), .val (.ref b17), .val (.int ((x1 &&& (2147483647 : Int32)) % (5 : Int32))), .val (.int ((x3 &&& (2147483647 : Int32)) % (5 : Int32))), .val (.int (0 : Int32)), .val (.int (0 : Int32)), .val (.ref b168), .val (.ref b177), .val (.int ((x4 &&& (2147483647 : Int32)) % (3 : Int32))), .val (.ref b17), .val (.int (0 : Int32)), .val (.int (0 : Int32)), .val (.int (1 : Int32))] [])) _
          refine own_go (fun t_ k_ => XS.iload X219.here hx rfl (hb hby at_221) rfl k_) ?_
          show own_Goes p e below (T219.setTop (mkF m 223 #[.val (.int x0), .val (.int x1), .val (.int x2), .val (.int x3), .val (.int x4), .val (.ref b1), .val (.ref b9), .val (.ref b17), .val (.int ((x1 &&& (2147483647 : Int32)) % (5 : Int32))), .val (.int ((x3 &&& (2147483647 : Int32)) % (5 : Int32))), .val (.int (0 : Int32)), .val (.int (0 : Int32)), .val (.ref b168), .val (.ref b177), .val (.int ((x4 &&& (2147483647 : Int32)) % (3 : Int32))), .val (.ref b17), .val (.int (0 : Int32)), .val (.int (0 : Int32)), .val (.int (1 : Int32))] [(.int (1 : Int32))])) _
          refine own_go (fun t_ k_ => XS.ifNo X219.here hx rfl (hb hby at_223) rfl ((if0 _ _).trans (feq (show ¬ ((1 : Int32) = (0 : Int32)) from by decide)).1) k_) ?_
          show own_Goes p e below (T219.setTop (mkF m 226 #[.val (.int x0), .val (.int x1), .val (.int x2), .val (.int x3), .val (.int x4), .val (.ref b1), .val (.ref b9), .val (.ref b17), .val (.int ((x1 &&& (2147483647 : Int32)) % (5 : Int32))), .val (.int ((x3 &&& (2147483647 : Int32)) % (5 : Int32))), .val (.int (0 : Int32)), .val (.int (0 : Int32)), .val (.ref b168), .val (.ref b177), .val (.int ((x4 &&& (2147483647 : Int32)) % (3 : Int32))), .val (.ref b17), .val (.int (0 : Int32)), .val (.int (0 : Int32)), .val (.int (1 : Int32))] [])) _
          refine own_go (fun t_ k_ => XS.iconst X219.here hx rfl (hb hby at_226) k_) ?_
          show own_Goes p e below (T219.setTop (mkF m 227 #[.val (.int x0), .val (.int x1), .val (.int x2), .val (.int x3), .val (.int x4), .val (.ref b1), .val (.ref b9), .val (.ref b17), .val (.int ((x1 &&& (2147483647 : Int32)) % (5 : Int32))), .val (.int ((x3 &&& (2147483647 : Int32)) % (5 : Int32))), .val (.int (0 : Int32)), .val (.int (0 : Int32)), .val (.ref b168), .val (.ref b177), .val (.int ((x4 &&& (2147483647 : Int32)) % (3 : Int32))), .val (.ref b17), .val (.int (0 : Int32)), .val (.int (0 : Int32)), .val (.int (1 : Int32))] [(.int (1 : Int32))])) _
          refine own_go (fun t_ k_ => XS.goto X219.here hx rfl (pc0 := 227) (pc' := 231) rfl (hb hby at_227) (by decide) (by decide) k_) ?_
          show own_Goes p e below (T219.setTop (mkF m 231 #[.val (.int x0), .val (.int x1), .val (.int x2), .val (.int x3), .val (.int x4), .val (.ref b1), .val (.ref b9), .val (.ref b17), .val (.int ((x1 &&& (2147483647 : Int32)) % (5 : Int32))), .val (.int ((x3 &&& (2147483647 : Int32)) % (5 : Int32))), .val (.int (0 : Int32)), .val (.int (0 : Int32)), .val (.ref b168), .val (.ref b177), .val (.int ((x4 &&& (2147483647 : Int32)) % (3 : Int32))), .val (.ref b17), .val (.int (0 : Int32)), .val (.int (0 : Int32)), .val (.int (1 : Int32))] [(.int (1 : Int32))])) _
          refine own_endW X219 hS183 (show _ ≤ T219.heap.size by rw [e219]; exact hk183) (v := (some (.int (1 : Int32)))) (fun h => by rw [hret] at h; cases h) hlk (by decide) (by decide) ?_ (fun fs hr => retOut X219 hx hret rfl (Or.inl ⟨rfl, Or.inr (Or.inl rfl), _, rfl⟩) (hb hby at_231) hr)
          show Q_rm0 Z x0 x1 x2 x3 x4 gw0 gw1 gw2 gw3 gw4 h0 n0 _ T219.heap _
          rw [e219]
          exact ⟨N219, trivial, rfl⟩
set_option maxRecDepth 65536 in
set_option maxHeartbeats 40000000 in
theorem comes_1 {Post : Tables → Env → Array Value → State → Outcome → State → Prop} (hpost : ∀ tb e args s v u, (limb_1_1.after args s (.returned v) u = true ∧ limb_1_2.after args s (.returned v) u = true ∧ True) → ReturnedEndW s (.returned v) u (Jvm.fieldLocs frame_1_writes args s ++ Jvm.arrayLocs frame_1_arrays args s ++ Jvm.staticLocs frame_1_statics s) 24 3200 → Post tb e args s (.returned v) u) :
    ArmFor flags0 classFile x code maxLocals ret World_1 tables_1 room_1 Calls_1 rest_1 Pre_1 Post := by
  intro l hfl _ _ p e ha hc hk s m args below hf hA hF happ hP
  obtain ⟨hcalls, hrest, hpre⟩ := hP
  obtain ⟨-, -, -, hnamed, -, -, -, hat⟩ := (Spec.applies_iff hf).mp happ
  obtain ⟨hg, hn⟩ := and_e (Cond.before_iff.mp (show (Jvm.Cond.and given_1 narrow_1).before args s = true from hpre))
  obtain ⟨hg_1, hg_2⟩ := and_e hg
  obtain ⟨hg_3, hg_4⟩ := and_e hg_2
  obtain ⟨hg_5, hg_6⟩ := and_e hg_4
  obtain ⟨hg_7, hg_8⟩ := and_e hg_6
  obtain ⟨hg_9, hg_10⟩ := and_e hg_8
  obtain ⟨hn_1, hn_2⟩ := and_e hn
  obtain ⟨hn_3, hn_4⟩ := and_e hn_2
  obtain ⟨hn_5, hn_6⟩ := and_e hn_4
  obtain ⟨hn_7, hn_8⟩ := and_e hn_6
  obtain ⟨hn_9, hn_10⟩ := and_e hn_8
  obtain ⟨hn_11, hn_12⟩ := and_e hn_10
  obtain ⟨hn_13, hn_14⟩ := and_e hn_12
  obtain ⟨hn_15, hn_16⟩ := and_e hn_14
  obtain ⟨hn_17, hn_18⟩ := and_e hn_16
  obtain ⟨w0, w1, w2, w3, w4, rfl⟩ : ∃ w0 w1 w2 w3 w4 : Value, args = #[w0, w1, w2, w3, w4] := by
    have hs : args.size = 5 := by simpa [Cond.value, given_1] using hg_1
    obtain ⟨L⟩ := args
    match L, hs with
    | [w0, w1, w2, w3, w4], _ => exact ⟨w0, w1, w2, w3, w4, rfl⟩
  have hw := fun d (hd : d ∈ tables_1) => atoms_spec (ws := Jvm.Cond.code x code maxLocals ret :: tables_1) hat d (List.mem_cons_of_mem _ hd)
  have hfit : Fit s := fun {y c} hc i hi => by
    obtain ⟨ha, rfl⟩ := Array.getElem?_eq_some_iff.mp hc
    have q := List.all_eq_true.mp ((Array.all_eq_true_iff_forall_mem.mp hF) _ (Array.getElem_mem ha)) i (List.mem_range.mpr hi)
    simpa [Array.getElem?_eq_getElem hi] using q
  obtain ⟨i0, ei0⟩ := is_v hg_3
  obtain rfl : w0 = (.int i0) := Option.some.inj ei0
  obtain ⟨i1, ei1⟩ := is_v hg_5
  obtain rfl : w1 = (.int i1) := Option.some.inj ei1
  obtain ⟨i2, ei2⟩ := is_v hg_7
  obtain rfl : w2 = (.int i2) := Option.some.inj ei2
  obtain ⟨i3, ei3⟩ := is_v hg_9
  obtain rfl : w3 = (.int i3) := Option.some.inj ei3
  obtain ⟨i4, ei4⟩ := is_v hg_10
  obtain rfl : w4 = (.int i4) := Option.some.inj ei4
  obtain ⟨gw0, evgw0⟩ := exa_v hn_11
  have sgw0 := Sta.start evgw0 (Or.inr ⟨(hw _ (List.mem_of_getElem? (i := 53) rfl)), (hw _ (List.mem_of_getElem? (i := 82) rfl))⟩)
  have xgw0 := Exa.start evgw0 hn_11
  have fgw0 : Fld s s.heap gw0 "java/lang/Enum" "ordinal" "I" (.int (0 : Int32)) := Fld.start ((fld_at evgw0).symm.trans (eqv_i (Term.int_eval _) hn_17))
  obtain ⟨gw1, evgw1⟩ := exa_v hn_3
  have sgw1 := Sta.start evgw1 (Or.inr ⟨(hw _ (List.mem_of_getElem? (i := 53) rfl)), (hw _ (List.mem_of_getElem? (i := 71) rfl))⟩)
  have xgw1 := Exa.start evgw1 hn_3
  have fgw1 : Fld s s.heap gw1 "java/lang/Enum" "ordinal" "I" (.int (1 : Int32)) := Fld.start ((fld_at evgw1).symm.trans (eqv_i (Term.int_eval _) hn_7))
  obtain ⟨gw2, evgw2⟩ := exa_v hn_13
  have sgw2 := Sta.start evgw2 (Or.inr ⟨(hw _ (List.mem_of_getElem? (i := 53) rfl)), (hw _ (List.mem_of_getElem? (i := 87) rfl))⟩)
  have xgw2 := Exa.start evgw2 hn_13
  have fgw2 : Fld s s.heap gw2 "java/lang/Enum" "ordinal" "I" (.int (2 : Int32)) := Fld.start ((fld_at evgw2).symm.trans (eqv_i (Term.int_eval _) hn_15))
  obtain ⟨gw3, evgw3⟩ := exa_v hn_1
  have sgw3 := Sta.start evgw3 (Or.inr ⟨(hw _ (List.mem_of_getElem? (i := 53) rfl)), (hw _ (List.mem_of_getElem? (i := 54) rfl))⟩)
  have xgw3 := Exa.start evgw3 hn_1
  have fgw3 : Fld s s.heap gw3 "java/lang/Enum" "ordinal" "I" (.int (3 : Int32)) := Fld.start ((fld_at evgw3).symm.trans (eqv_i (Term.int_eval _) hn_5))
  obtain ⟨gw4, evgw4⟩ := exa_v hn_9
  have sgw4 := Sta.start evgw4 (Or.inr ⟨(hw _ (List.mem_of_getElem? (i := 53) rfl)), (hw _ (List.mem_of_getElem? (i := 80) rfl))⟩)
  have xgw4 := Exa.start evgw4 hn_9
  have fgw4 : Fld s s.heap gw4 "java/lang/Enum" "ordinal" "I" (.int (4 : Int32)) := Fld.start ((fld_at evgw4).symm.trans (eqv_i (Term.int_eval _) hn_18))
  obtain ⟨n, o, h1, h2, h3, _, L, rfl, ⟨N, -, rfl⟩, hq⟩ := rm0 l s _ hw tables_1 i0 i1 i2 i3 i4 s.heap s.heap.size (Old.start s) gw0 gw1 gw2 gw3 gw4 ⟨sgw0, xgw0, fgw0, sgw1, xgw1, fgw1, sgw2, xgw2, fgw2, sgw3, xgw3, fgw3, sgw4, xgw4, fgw4⟩ p e ha hc hk s m _ below hf ((Spec.applies_iff_loose hf).mp happ).1 ⟨rfl, State.Warmed39.refl s, rfl⟩ trivial
  refine ⟨n, _, h1, h2, h3, hpost _ _ _ _ _ _ ⟨Cond.after_iff.mpr rfl, Cond.after_iff.mpr (eq_i res_at (Term.int_eval (1)) rfl), trivial⟩ ⟨hq.1, hq.2.1, hq.2.2.1, (hq.2.2.2.sift fun y hy => Or.inr (N y hy)).mono (by decide) (by decide)⟩⟩
theorem main_1_1 : Claimed_1_1 := comes_1 fun _ _ _ _ _ _ h hF => ⟨h.1, hF⟩
theorem main_1_2 : Claimed_1_2 := comes_1 fun _ _ _ _ _ _ h hF => ⟨h.2.1, hF⟩
end Jvm.Pilot.@@N@@
namespace Jvm.Pilot.@@N@@
open Jvm Jvm.ClassFile Sem Op Lib Jvm.Free Jvm.Stand Jvm.Pilot.@@N@@.Jvm.D
/-! MADE BY PROGRAM (witnessworld.py) out of the Statement's table words and the real class files: 20 classes; the members and pool entries that the words name. The judged class is class 1, her method 3. -/
namespace start1
open Jvm.ClassFile
def u (s : String) : CpInfo := .utf8 (stringToUtf16 s)
/-- a pool by its gaps: so many unusable entries, then the entry; so many at the end -/
def gap : Nat → List CpInfo → List CpInfo
  | 0, r => r
  | n + 1, r => .unusable :: gap n r
def poolList (es : List (Nat × CpInfo)) (last : Nat) : List CpInfo := es.foldr (fun e r => gap e.1 (e.2 :: r)) (gap last [])
def pool (es : List (Nat × CpInfo)) (last : Nat) : Array CpInfo := ⟨poolList es last⟩
def fileOf (pool : Array CpInfo) (this : Nat) (attrs : Array Attribute := #[]) (ms : Array MethodInfo := #[]) (fl : Nat := 33) (sup : Nat := 0) (ifs : Array Nat := #[]) (fds : Array FieldInfo := #[]) : ClassFile where
  minorVersion := 0
  majorVersion := 65
  constantPool := pool
  accessFlags := fl
  thisClass := this
  superClass := sup
  interfaces := ifs
  fields := fds
  methods := ms
  attributes := attrs
def plain (name : String) (sup : Option ClassId) : Class where
  name := name
  kind := .ordinary
  loader := none
  accessFlags := 33
  super := sup
  interfaces := #[]
  cf := none
  fields := #[]
  methods := #[]
  instanceTypes := #[]
  staticTypes := #[]
  resolved := #[]
  callSites := []
  init := .initialized
  statics := none
  mirror := none

def pool0 : Array CpInfo := pool [(5, u "<init>"), (0, u "()V"), (1, .class_ 10), (1, u "java/lang/Object")] 113

def k0c0 : Code := { maxStack := 0, maxLocals := 1, code := object_method_1_code, exceptionTable := #[], attributes := #[] }
def k0m0 : Method := { name := "<init>", desc := "()V", sig := { parameters := [], returnType := none }, accessFlags := 1, code := some k0c0 }
/-- java/lang/Object -/
def k0 : Class := { plain "java/lang/Object" none with
  accessFlags := 33
  interfaces := #[]
  cf := some (fileOf pool0 8 #[] #[{ accessFlags := 1, nameIndex := 5, descriptorIndex := 6, attributes := #[] }] 33 0 #[] #[])
  fields := #[]
  methods := #[k0m0]
  instanceTypes := #[]
  staticTypes := #[]
  resolved := Array.replicate 124 none
  statics := none }

def pool1 : Array CpInfo := pool [(2, .class_ 4), (1, u "java/lang/Object"), (0, u "<init>"), (0, u "()V"), (0, .integer 2147483647), (0, .fieldref 9 10), (0, .class_ 11), (0, .nameAndType 12 13), (0, u "com/example/breach_or_proof/breachorproof/analysis/PathStep$Branch"), (0, u "ONLY"), (0, u "Lcom/example/breach_or_proof/breachorproof/analysis/PathStep$Branch;"), (0, .fieldref 9 15), (0, .nameAndType 16 13), (0, u "LEFT"), (0, .fieldref 9 18), (0, .nameAndType 19 13), (0, u "RIGHT"), (0, .fieldref 9 21), (0, .nameAndType 22 13), (0, u "THEN"), (0, .fieldref 9 24), (0, .nameAndType 25 13), (0, u "ELSE"), (0, .class_ 27), (0, u "com/example/breach_or_proof/breachorproof/Location"), (0, .methodref 26 29), (0, .nameAndType 5 30), (0, u "(II)V"), (0, .class_ 32), (0, u "com/example/breach_or_proof/breachorproof/Process$Nil"), (0, .methodref 31 34), (0, .nameAndType 5 35), (0, u "(Lcom/example/breach_or_proof/breachorproof/Location;)V"), (0, .methodref 37 38), (0, .class_ 39), (0, .nameAndType 40 41), (0, u "com/example/breach_or_proof/breachorproof/analysis/PathStepEqualsPinLaw"), (0, u "idx"), (0, u "(I)I"), (0, .class_ 43), (0, u "com/example/breach_or_proof/breachorproof/analysis/PathStep"), (0, .methodref 37 45), (0, .nameAndType 46 47), (0, u "branch"), (0, u "(I)Lcom/example/breach_or_proof/breachorproof/analysis/PathStep$Branch;"), (0, .methodref 42 49), (0, .nameAndType 5 50), (0, u "(Lcom/example/breach_or_proof/breachorproof/Process;Lcom/example/breach_or_proof/breachorproof/analysis/PathStep$Branch;)V"), (0, .methodref 42 52), (0, .nameAndType 53 54), (0, u "equals"), (0, u "(Ljava/lang/Object;)Z"), (3, u "law"), (0, u "(IIIII)Z")] 7

def k1m0 : Method := { name := "<init>", desc := "()V", sig := { parameters := [], returnType := none }, accessFlags := 1, code := none }
def k1c1 : Code := { maxStack := 2, maxLocals := 1, code := method_2_code, exceptionTable := #[], attributes := #[] }
def k1m1 : Method := { name := "idx", desc := "(I)I", sig := { parameters := [.int], returnType := some .int }, accessFlags := 10, code := some k1c1 }
def k1c2 : Code := { maxStack := 2, maxLocals := 1, code := method_3_code, exceptionTable := #[], attributes := #[] }
def k1m2 : Method := { name := "branch", desc := "(I)Lcom/example/breach_or_proof/breachorproof/analysis/PathStep$Branch;", sig := { parameters := [.int], returnType := some (.object "com/example/breach_or_proof/breachorproof/analysis/PathStep$Branch") }, accessFlags := 10, code := some k1c2 }
def k1c3 : Code := { maxStack := 4, maxLocals := 19, code := code, exceptionTable := #[], attributes := #[] }
def k1m3 : Method := { name := "law", desc := "(IIIII)Z", sig := { parameters := [.int, .int, .int, .int, .int], returnType := some .boolean }, accessFlags := 9, code := some k1c3 }
/-- com/example/breach_or_proof/breachorproof/analysis/PathStepEqualsPinLaw -/
def k1 : Class := { plain "com/example/breach_or_proof/breachorproof/analysis/PathStepEqualsPinLaw" (some 0) with
  accessFlags := 49
  interfaces := #[]
  cf := some (fileOf pool1 37 #[] #[{ accessFlags := 1, nameIndex := 5, descriptorIndex := 6, attributes := #[] }, { accessFlags := 10, nameIndex := 40, descriptorIndex := 41, attributes := #[] }, { accessFlags := 10, nameIndex := 46, descriptorIndex := 47, attributes := #[] }, { accessFlags := 9, nameIndex := 58, descriptorIndex := 59, attributes := #[] }] 49 2 #[] #[])
  fields := #[]
  methods := #[k1m0, k1m1, k1m2, k1m3]
  instanceTypes := #[]
  staticTypes := #[]
  resolved := Array.replicate 67 none
  statics := none }

def pool2 : Array CpInfo := pool [(1, .methodref 2 3), (0, .class_ 4), (0, .nameAndType 5 6), (0, u "java/lang/Object"), (0, u "<init>"), (0, u "()V"), (9, .fieldref 17 18), (0, .class_ 19), (0, .nameAndType 20 21), (0, u "com/example/breach_or_proof/breachorproof/Location"), (0, u "line"), (0, u "I"), (0, .fieldref 17 23), (0, .nameAndType 24 21), (0, u "column"), (1, u "(II)V")] 25

def k2c0 : Code := { maxStack := 4, maxLocals := 3, code := prog_15_method_1_code, exceptionTable := #[], attributes := #[] }
def k2m0 : Method := { name := "<init>", desc := "(II)V", sig := { parameters := [.int, .int], returnType := none }, accessFlags := 1, code := some k2c0 }
/-- com/example/breach_or_proof/breachorproof/Location -/
def k2 : Class := { plain "com/example/breach_or_proof/breachorproof/Location" (some 0) with
  accessFlags := 49
  interfaces := #[]
  cf := some (fileOf pool2 17 #[] #[{ accessFlags := 1, nameIndex := 5, descriptorIndex := 26, attributes := #[] }] 49 2 #[] #[{ accessFlags := 18, nameIndex := 20, descriptorIndex := 21, attributes := #[] }, { accessFlags := 18, nameIndex := 24, descriptorIndex := 21, attributes := #[] }])
  fields := #[{ name := "line", type := .int, accessFlags := 18, slot := 0, constantValue := 0 }, { name := "column", type := .int, accessFlags := 18, slot := 1, constantValue := 0 }]
  methods := #[k2m0]
  instanceTypes := #[.int, .int]
  staticTypes := #[]
  resolved := Array.replicate 52 none
  statics := none }

def pool3 : Array CpInfo := pool [(1, .methodref 2 3), (0, .class_ 4), (0, .nameAndType 5 6), (0, u "java/lang/Object"), (0, u "<init>"), (0, u "()V"), (0, .string 8), (0, u "location"), (0, .methodref 10 11), (0, .class_ 12), (0, .nameAndType 13 14), (0, u "java/util/Objects"), (0, u "requireNonNull"), (0, u "(Ljava/lang/Object;Ljava/lang/String;)Ljava/lang/Object;"), (0, .class_ 16), (0, u "com/example/breach_or_proof/breachorproof/Location"), (0, .fieldref 18 19), (0, .class_ 20), (0, .nameAndType 8 21), (0, u "com/example/breach_or_proof/breachorproof/Process"), (0, u "Lcom/example/breach_or_proof/breachorproof/Location;"), (0, u "(Lcom/example/breach_or_proof/breachorproof/Location;)V"), (6, .class_ 30), (0, u "com/example/breach_or_proof/breachorproof/Process$Get"), (0, .class_ 32), (0, u "com/example/breach_or_proof/breachorproof/Process$Insert"), (0, .class_ 34), (0, u "com/example/breach_or_proof/breachorproof/Process$Event"), (0, .class_ 36), (0, u "com/example/breach_or_proof/breachorproof/Process$Phase"), (0, .class_ 38), (0, u "com/example/breach_or_proof/breachorproof/Process$If"), (0, .class_ 40), (0, u "com/example/breach_or_proof/breachorproof/Process$Let"), (0, .class_ 42), (0, u "com/example/breach_or_proof/breachorproof/Process$Input"), (0, .class_ 44), (0, u "com/example/breach_or_proof/breachorproof/Process$Output"), (0, .class_ 46), (0, u "com/example/breach_or_proof/breachorproof/Process$New"), (0, .class_ 48), (0, u "com/example/breach_or_proof/breachorproof/Process$Replication"), (0, .class_ 50), (0, u "com/example/breach_or_proof/breachorproof/Process$Parallel"), (0, .class_ 52), (0, u "com/example/breach_or_proof/breachorproof/Process$Nil")] 13

def k3c0 : Code := { maxStack := 3, maxLocals := 2, code := prog_26_method_1_code, exceptionTable := #[], attributes := #[] }
def k3m0 : Method := { name := "<init>", desc := "(Lcom/example/breach_or_proof/breachorproof/Location;)V", sig := { parameters := [(.object "com/example/breach_or_proof/breachorproof/Location")], returnType := none }, accessFlags := 0, code := some k3c0 }
/-- com/example/breach_or_proof/breachorproof/Process -/
def k3 : Class := { plain "com/example/breach_or_proof/breachorproof/Process" (some 0) with
  accessFlags := 1057
  interfaces := #[]
  cf := some (fileOf pool3 18 #[.nestMembers #[29, 31, 33, 35, 37, 39, 41, 43, 45, 47, 49, 51]] #[{ accessFlags := 0, nameIndex := 5, descriptorIndex := 22, attributes := #[] }] 1057 2 #[] #[{ accessFlags := 18, nameIndex := 8, descriptorIndex := 21, attributes := #[] }])
  fields := #[{ name := "location", type := (.object "com/example/breach_or_proof/breachorproof/Location"), accessFlags := 18, slot := 0, constantValue := 0 }]
  methods := #[k3m0]
  instanceTypes := #[(.object "com/example/breach_or_proof/breachorproof/Location")]
  staticTypes := #[]
  resolved := Array.replicate 66 none
  statics := none }

def pool4 : Array CpInfo := pool [(1, .methodref 2 3), (0, .class_ 4), (0, .nameAndType 5 6), (0, u "com/example/breach_or_proof/breachorproof/Process"), (0, u "<init>"), (0, u "(Lcom/example/breach_or_proof/breachorproof/Location;)V"), (0, .class_ 8), (0, u "com/example/breach_or_proof/breachorproof/Process$Nil")] 7

def k4c0 : Code := { maxStack := 2, maxLocals := 2, code := prog_34_method_1_code, exceptionTable := #[], attributes := #[] }
def k4m0 : Method := { name := "<init>", desc := "(Lcom/example/breach_or_proof/breachorproof/Location;)V", sig := { parameters := [(.object "com/example/breach_or_proof/breachorproof/Location")], returnType := none }, accessFlags := 1, code := some k4c0 }
/-- com/example/breach_or_proof/breachorproof/Process$Nil -/
def k4 : Class := { plain "com/example/breach_or_proof/breachorproof/Process$Nil" (some 3) with
  accessFlags := 49
  interfaces := #[]
  cf := some (fileOf pool4 7 #[.nestHost 2] #[{ accessFlags := 1, nameIndex := 5, descriptorIndex := 6, attributes := #[] }] 49 2 #[] #[])
  fields := #[]
  methods := #[k4m0]
  instanceTypes := #[(.object "com/example/breach_or_proof/breachorproof/Location")]
  staticTypes := #[]
  resolved := Array.replicate 16 none
  statics := none }

def pool5 : Array CpInfo := pool [(1, .class_ 2), (0, u "java/io/Serializable"), (0, .class_ 4), (0, u "java/lang/Object")] 2

/-- java/io/Serializable -/
def k5 : Class := { plain "java/io/Serializable" (some 0) with
  accessFlags := 1537
  interfaces := #[]
  cf := some (fileOf pool5 1 #[] #[] 1537 3 #[] #[])
  fields := #[]
  methods := #[]
  instanceTypes := #[]
  staticTypes := #[]
  resolved := Array.replicate 7 none
  statics := none }

def pool6 : Array CpInfo := pool [(1, .class_ 2), (0, u "java/lang/Comparable"), (0, .class_ 4), (0, u "java/lang/Object")] 7

/-- java/lang/Comparable -/
def k6 : Class := { plain "java/lang/Comparable" (some 0) with
  accessFlags := 1537
  interfaces := #[]
  cf := some (fileOf pool6 1 #[] #[] 1537 3 #[] #[])
  fields := #[]
  methods := #[]
  instanceTypes := #[]
  staticTypes := #[]
  resolved := Array.replicate 12 none
  statics := none }

def pool7 : Array CpInfo := pool [(2, .class_ 4), (1, u "java/lang/CharSequence"), (42, .class_ 48), (0, u "java/lang/CharSequence$1CodePointIterator"), (10, .class_ 60), (0, u "java/lang/CharSequence$1CharIterator"), (5, .class_ 67), (0, u "java/lang/Object")] 63

/-- java/lang/CharSequence -/
def k7 : Class := { plain "java/lang/CharSequence" (some 0) with
  accessFlags := 1537
  interfaces := #[]
  cf := some (fileOf pool7 2 #[.nestMembers #[47, 59]] #[] 1537 66 #[] #[])
  fields := #[]
  methods := #[]
  instanceTypes := #[]
  staticTypes := #[]
  resolved := Array.replicate 131 none
  statics := none }

def pool8 : Array CpInfo := pool [(1, .class_ 2), (0, u "java/lang/constant/Constable"), (0, .class_ 4), (0, u "java/lang/Object")] 6

/-- java/lang/constant/Constable -/
def k8 : Class := { plain "java/lang/constant/Constable" (some 0) with
  accessFlags := 1537
  interfaces := #[]
  cf := some (fileOf pool8 1 #[] #[] 1537 3 #[] #[])
  fields := #[]
  methods := #[]
  instanceTypes := #[]
  staticTypes := #[]
  resolved := Array.replicate 11 none
  statics := none }

def pool9 : Array CpInfo := pool [(1, .class_ 2), (0, u "java/lang/constant/ConstantDesc"), (0, .class_ 4), (0, u "java/lang/Object")] 32

/-- java/lang/constant/ConstantDesc -/
def k9 : Class := { plain "java/lang/constant/ConstantDesc" (some 0) with
  accessFlags := 1537
  interfaces := #[]
  cf := some (fileOf pool9 1 #[] #[] 1537 3 #[] #[])
  fields := #[]
  methods := #[]
  instanceTypes := #[]
  staticTypes := #[]
  resolved := Array.replicate 37 none
  statics := none }

def pool10 : Array CpInfo := pool [(2, .class_ 4), (1, u "java/lang/Object"), (0, u "<init>"), (0, u "()V"), (3, .class_ 12), (1, u "java/lang/String"), (0, u "value"), (0, u "[B"), (2, u "coder"), (0, u "B"), (2, u "hash"), (0, u "I"), (2, u "hashIsZero"), (0, u "Z"), (13, u "COMPACT_STRINGS"), (534, .class_ 576), (0, u "java/lang/CharSequence"), (22, u "CASE_INSENSITIVE_ORDER"), (0, u "Ljava/util/Comparator;"), (500, u "serialPersistentFields"), (0, u "[Ljava/io/ObjectStreamField;"), (0, .class_ 1104), (0, u "java/lang/String$CaseInsensitiveComparator"), (1, .class_ 1107), (0, u "java/io/Serializable"), (0, .class_ 1109), (0, u "java/lang/Comparable"), (0, .class_ 1111), (0, u "java/lang/constant/Constable"), (0, .class_ 1113), (0, u "java/lang/constant/ConstantDesc"), (2, u "serialVersionUID"), (0, u "J"), (3, u "REPL"), (0, u "C"), (2, u "LATIN1"), (1, u "UTF16")] 323

def k10m0 : Method := { name := "<init>", desc := "()V", sig := { parameters := [], returnType := none }, accessFlags := 1, code := none }
/-- java/lang/String -/
def k10 : Class := { plain "java/lang/String" (some 0) with
  accessFlags := 49
  interfaces := #[5, 6, 7, 8, 9]
  cf := some (fileOf pool10 10 #[.nestMembers #[1103]] #[{ accessFlags := 1, nameIndex := 5, descriptorIndex := 6, attributes := #[] }] 49 2 #[1106, 1108, 575, 1110, 1112] #[{ accessFlags := 18, nameIndex := 13, descriptorIndex := 14, attributes := #[] }, { accessFlags := 18, nameIndex := 17, descriptorIndex := 18, attributes := #[] }, { accessFlags := 2, nameIndex := 21, descriptorIndex := 22, attributes := #[] }, { accessFlags := 2, nameIndex := 25, descriptorIndex := 26, attributes := #[] }, { accessFlags := 26, nameIndex := 1116, descriptorIndex := 1117, attributes := #[] }, { accessFlags := 24, nameIndex := 40, descriptorIndex := 26, attributes := #[] }, { accessFlags := 26, nameIndex := 1101, descriptorIndex := 1102, attributes := #[] }, { accessFlags := 26, nameIndex := 1121, descriptorIndex := 1122, attributes := #[] }, { accessFlags := 25, nameIndex := 599, descriptorIndex := 600, attributes := #[] }, { accessFlags := 24, nameIndex := 1125, descriptorIndex := 18, attributes := #[] }, { accessFlags := 24, nameIndex := 1127, descriptorIndex := 18, attributes := #[] }])
  fields := #[{ name := "value", type := (.array .byte), accessFlags := 18, slot := 0, constantValue := 0 }, { name := "coder", type := .byte, accessFlags := 18, slot := 1, constantValue := 0 }, { name := "hash", type := .int, accessFlags := 2, slot := 2, constantValue := 0 }, { name := "hashIsZero", type := .boolean, accessFlags := 2, slot := 3, constantValue := 0 }, { name := "serialVersionUID", type := .long, accessFlags := 26, slot := 0, constantValue := 0 }, { name := "COMPACT_STRINGS", type := .boolean, accessFlags := 24, slot := 1, constantValue := 0 }, { name := "serialPersistentFields", type := (.array (.object "java/io/ObjectStreamField")), accessFlags := 26, slot := 2, constantValue := 0 }, { name := "REPL", type := .char, accessFlags := 26, slot := 3, constantValue := 0 }, { name := "CASE_INSENSITIVE_ORDER", type := (.object "java/util/Comparator"), accessFlags := 25, slot := 4, constantValue := 0 }, { name := "LATIN1", type := .byte, accessFlags := 24, slot := 5, constantValue := 0 }, { name := "UTF16", type := .byte, accessFlags := 24, slot := 6, constantValue := 0 }]
  methods := #[k10m0]
  instanceTypes := #[(.array .byte), .byte, .int, .boolean]
  staticTypes := #[.long, .boolean, (.array (.object "java/io/ObjectStreamField")), .char, (.object "java/util/Comparator"), .byte, .byte]
  resolved := Array.replicate 1451 none
  statics := none }

def pool11 : Array CpInfo := pool [(2, .class_ 4), (1, u "java/lang/Object"), (0, u "<init>"), (0, u "()V"), (35, .class_ 44), (1, u "java/util/Objects"), (0, u "requireNonNull"), (48, u "(Ljava/lang/Object;Ljava/lang/String;)Ljava/lang/Object;")] 89

def k11m0 : Method := { name := "<init>", desc := "()V", sig := { parameters := [], returnType := none }, accessFlags := 2, code := none }
def k11c1 : Code := { maxStack := 3, maxLocals := 2, code := jdk_31_method_11_code, exceptionTable := #[], attributes := #[] }
def k11m1 : Method := { name := "requireNonNull", desc := "(Ljava/lang/Object;Ljava/lang/String;)Ljava/lang/Object;", sig := { parameters := [(.object "java/lang/Object"), (.object "java/lang/String")], returnType := some (.object "java/lang/Object") }, accessFlags := 9, code := some k11c1 }
/-- java/util/Objects -/
def k11 : Class := { plain "java/util/Objects" (some 0) with
  accessFlags := 49
  interfaces := #[]
  cf := some (fileOf pool11 42 #[] #[{ accessFlags := 2, nameIndex := 5, descriptorIndex := 6, attributes := #[] }, { accessFlags := 9, nameIndex := 45, descriptorIndex := 94, attributes := #[] }] 49 2 #[] #[])
  fields := #[]
  methods := #[k11m0, k11m1]
  instanceTypes := #[]
  staticTypes := #[]
  resolved := Array.replicate 184 none
  statics := none }

def pool12 : Array CpInfo := pool [(1, .methodref 2 3), (0, .class_ 4), (0, .nameAndType 5 6), (0, u "java/lang/Object"), (0, u "<init>"), (0, u "()V"), (0, .string 8), (0, u "process"), (0, .methodref 10 11), (0, .class_ 12), (0, .nameAndType 13 14), (0, u "java/util/Objects"), (0, u "requireNonNull"), (0, u "(Ljava/lang/Object;Ljava/lang/String;)Ljava/lang/Object;"), (0, .class_ 16), (0, u "com/example/breach_or_proof/breachorproof/Process"), (0, .fieldref 18 19), (0, .class_ 20), (0, .nameAndType 8 21), (0, u "com/example/breach_or_proof/breachorproof/analysis/PathStep"), (0, u "Lcom/example/breach_or_proof/breachorproof/Process;"), (0, .string 23), (0, u "branch"), (0, .class_ 25), (0, u "com/example/breach_or_proof/breachorproof/analysis/PathStep$Branch"), (0, .fieldref 18 27), (0, .nameAndType 23 28), (0, u "Lcom/example/breach_or_proof/breachorproof/analysis/PathStep$Branch;"), (10, u "(Lcom/example/breach_or_proof/breachorproof/Process;Lcom/example/breach_or_proof/breachorproof/analysis/PathStep$Branch;)V"), (4, u "equals"), (0, u "(Ljava/lang/Object;)Z")] 6

def k12c0 : Code := { maxStack := 3, maxLocals := 3, code := prog_70_method_1_code, exceptionTable := #[], attributes := #[] }
def k12m0 : Method := { name := "<init>", desc := "(Lcom/example/breach_or_proof/breachorproof/Process;Lcom/example/breach_or_proof/breachorproof/analysis/PathStep$Branch;)V", sig := { parameters := [(.object "com/example/breach_or_proof/breachorproof/Process"), (.object "com/example/breach_or_proof/breachorproof/analysis/PathStep$Branch")], returnType := none }, accessFlags := 0, code := some k12c0 }
def k12c1 : Code := { maxStack := 2, maxLocals := 3, code := prog_70_method_4_code, exceptionTable := #[], attributes := #[] }
def k12m1 : Method := { name := "equals", desc := "(Ljava/lang/Object;)Z", sig := { parameters := [(.object "java/lang/Object")], returnType := some .boolean }, accessFlags := 1, code := some k12c1 }
/-- com/example/breach_or_proof/breachorproof/analysis/PathStep -/
def k12 : Class := { plain "com/example/breach_or_proof/breachorproof/analysis/PathStep" (some 0) with
  accessFlags := 48
  interfaces := #[]
  cf := some (fileOf pool12 18 #[.nestMembers #[24]] #[{ accessFlags := 0, nameIndex := 5, descriptorIndex := 39, attributes := #[] }, { accessFlags := 1, nameIndex := 44, descriptorIndex := 45, attributes := #[] }] 48 2 #[] #[{ accessFlags := 18, nameIndex := 8, descriptorIndex := 21, attributes := #[] }, { accessFlags := 18, nameIndex := 23, descriptorIndex := 28, attributes := #[] }])
  fields := #[{ name := "process", type := (.object "com/example/breach_or_proof/breachorproof/Process"), accessFlags := 18, slot := 0, constantValue := 0 }, { name := "branch", type := (.object "com/example/breach_or_proof/breachorproof/analysis/PathStep$Branch"), accessFlags := 18, slot := 1, constantValue := 0 }]
  methods := #[k12m0, k12m1]
  instanceTypes := #[(.object "com/example/breach_or_proof/breachorproof/Process"), (.object "com/example/breach_or_proof/breachorproof/analysis/PathStep$Branch")]
  staticTypes := #[]
  resolved := Array.replicate 52 none
  statics := none }

def pool13 : Array CpInfo := pool [(2, .class_ 4), (1, u "java/lang/Enum"), (0, u "name"), (0, u "Ljava/lang/String;"), (2, u "ordinal"), (0, u "I"), (1, .class_ 14), (1, u "java/lang/Object"), (4, u "hash"), (86, .class_ 108), (1, u "java/lang/Enum$EnumDesc"), (2, .class_ 112), (0, u "java/lang/constant/Constable"), (0, .class_ 114), (0, u "java/lang/Comparable"), (0, .class_ 116), (0, u "java/io/Serializable")] 87

/-- java/lang/Enum -/
def k13 : Class := { plain "java/lang/Enum" (some 0) with
  accessFlags := 1057
  interfaces := #[8, 6, 5]
  cf := some (fileOf pool13 2 #[.nestMembers #[106]] #[] 1057 12 #[111, 113, 115] #[{ accessFlags := 18, nameIndex := 5, descriptorIndex := 6, attributes := #[] }, { accessFlags := 18, nameIndex := 9, descriptorIndex := 10, attributes := #[] }, { accessFlags := 2, nameIndex := 19, descriptorIndex := 10, attributes := #[] }])
  fields := #[{ name := "name", type := (.object "java/lang/String"), accessFlags := 18, slot := 0, constantValue := 0 }, { name := "ordinal", type := .int, accessFlags := 18, slot := 1, constantValue := 0 }, { name := "hash", type := .int, accessFlags := 2, slot := 2, constantValue := 0 }]
  methods := #[]
  instanceTypes := #[(.object "java/lang/String"), .int, .int]
  staticTypes := #[]
  resolved := Array.replicate 204 none
  statics := none }

def pool14 : Array CpInfo := pool [(1, .class_ 2), (0, u "com/example/breach_or_proof/breachorproof/analysis/PathStep$Branch"), (2, u "ONLY"), (0, u "Lcom/example/breach_or_proof/breachorproof/analysis/PathStep$Branch;"), (2, u "LEFT"), (2, u "RIGHT"), (2, u "THEN"), (2, u "ELSE"), (2, u "$VALUES"), (0, u "[Lcom/example/breach_or_proof/breachorproof/analysis/PathStep$Branch;"), (6, .class_ 31), (1, u "java/lang/Enum"), (28, .class_ 61), (0, u "com/example/breach_or_proof/breachorproof/analysis/PathStep")] 2

/-- com/example/breach_or_proof/breachorproof/analysis/PathStep$Branch -/
def k14 : Class := { plain "com/example/breach_or_proof/breachorproof/analysis/PathStep$Branch" (some 13) with
  accessFlags := 16432
  interfaces := #[]
  cf := some (fileOf pool14 1 #[.nestHost 60] #[] 16432 29 #[] #[{ accessFlags := 16409, nameIndex := 5, descriptorIndex := 6, attributes := #[] }, { accessFlags := 16409, nameIndex := 9, descriptorIndex := 6, attributes := #[] }, { accessFlags := 16409, nameIndex := 12, descriptorIndex := 6, attributes := #[] }, { accessFlags := 16409, nameIndex := 15, descriptorIndex := 6, attributes := #[] }, { accessFlags := 16409, nameIndex := 18, descriptorIndex := 6, attributes := #[] }, { accessFlags := 4122, nameIndex := 21, descriptorIndex := 22, attributes := #[] }])
  fields := #[{ name := "ONLY", type := (.object "com/example/breach_or_proof/breachorproof/analysis/PathStep$Branch"), accessFlags := 16409, slot := 0, constantValue := 0 }, { name := "LEFT", type := (.object "com/example/breach_or_proof/breachorproof/analysis/PathStep$Branch"), accessFlags := 16409, slot := 1, constantValue := 0 }, { name := "RIGHT", type := (.object "com/example/breach_or_proof/breachorproof/analysis/PathStep$Branch"), accessFlags := 16409, slot := 2, constantValue := 0 }, { name := "THEN", type := (.object "com/example/breach_or_proof/breachorproof/analysis/PathStep$Branch"), accessFlags := 16409, slot := 3, constantValue := 0 }, { name := "ELSE", type := (.object "com/example/breach_or_proof/breachorproof/analysis/PathStep$Branch"), accessFlags := 16409, slot := 4, constantValue := 0 }, { name := "$VALUES", type := (.array (.object "com/example/breach_or_proof/breachorproof/analysis/PathStep$Branch")), accessFlags := 4122, slot := 5, constantValue := 0 }]
  methods := #[]
  instanceTypes := #[(.object "java/lang/String"), .int, .int]
  staticTypes := #[(.object "com/example/breach_or_proof/breachorproof/analysis/PathStep$Branch"), (.object "com/example/breach_or_proof/breachorproof/analysis/PathStep$Branch"), (.object "com/example/breach_or_proof/breachorproof/analysis/PathStep$Branch"), (.object "com/example/breach_or_proof/breachorproof/analysis/PathStep$Branch"), (.object "com/example/breach_or_proof/breachorproof/analysis/PathStep$Branch"), (.array (.object "com/example/breach_or_proof/breachorproof/analysis/PathStep$Branch"))]
  resolved := Array.replicate 64 none
  statics := some 0 }

def pool15 : Array CpInfo := pool [(1, u "java/lang/Cloneable"), (0, .class_ 1), (0, u "java/lang/Object"), (0, .class_ 3)] 3

/-- java/lang/Cloneable -/
def k15 : Class := { plain "java/lang/Cloneable" (some 0) with
  accessFlags := 1537
  interfaces := #[]
  cf := some (fileOf pool15 2 #[] #[] 1537 4 #[] #[])
  fields := #[]
  methods := #[]
  instanceTypes := #[]
  staticTypes := #[]
  resolved := Array.replicate 8 none
  statics := none }

/-- the primitive byte -/
def k16 : Class := { plain "byte" none with kind := .primitive 'B', accessFlags := 0x411 }
/-- [B -/
def k17 : Class := { plain "[B" (some 0) with kind := .array 16 .byte, interfaces := #[15, 5], accessFlags := 1041 }

/-- the primitive int -/
def k18 : Class := { plain "int" none with kind := .primitive 'I', accessFlags := 0x411 }
/-- [I -/
def k19 : Class := { plain "[I" (some 0) with kind := .array 18 .int, interfaces := #[15, 5], accessFlags := 1041 }

def heap : Heap := #[{ cls := 14, slots := #[.ref 1, .ref 2, .ref 3, .ref 4, .ref 5, .null], vm := .statics 14 },
  { cls := 14, slots := #[.null, .int 0, .int 0], vm := .none },
  { cls := 14, slots := #[.null, .int 1, .int 0], vm := .none },
  { cls := 14, slots := #[.null, .int 2, .int 0], vm := .none },
  { cls := 14, slots := #[.null, .int 3, .int 0], vm := .none },
  { cls := 14, slots := #[.null, .int 4, .int 0], vm := .none }]
def classes : Array Class := #[k0, k1, k2, k3, k4, k5, k6, k7, k8, k9, k10, k11, k12, k13, k14, k15, k16, k17, k18, k19]
def interned : List (Array UInt16 × Addr) := []
def slotsUsed : Nat := 21
def theMethod : MethodId := ⟨1, 3⟩
def args0 : Array Value := #[.int 5, .int 2, .int 2, .int 9, .int 3]
def aboutOver (below : List Frame) : State where
  vm := { classes := classes, interned := interned.toArray }
  heap := heap
  slotsUsed := slotsUsed
  threads := #[{ frames := .invoking theMethod args0 :: below }]
def below0 : List Frame := [.native { method := ⟨0, 0⟩, args := #[] }]
def about1 : State := aboutOver below0
def p0 : Program := .bare "" "" ""
def e0 : Env := launch0.env 0 0 0
theorem w_frames : about1.frames = Frame.invoking theMethod args0 :: below0 := rfl
set_option maxRecDepth 65536 in
theorem w_args : argsFit about1.vm theMethod args0 = true := by decide +kernel
set_option maxRecDepth 65536 in
theorem w_heap : heapFits about1 = true := by decide +kernel
set_option maxRecDepth 65536 in
theorem w_runnable : about1.curStatus? = some .runnable := by decide +kernel
set_option maxRecDepth 65536 in
theorem w_alone : about1.alone = true := by decide +kernel
set_option maxRecDepth 65536 in
theorem w_named : about1.methodNamed? x = some theMethod := by decide +kernel
set_option maxRecDepth 65536 in
theorem w_hears : about1.hears theMethod below0 = true := by decide +kernel
set_option maxRecDepth 65536 in
theorem w_ripe : about1.ripe theMethod args0 below0 = true := by decide +kernel
theorem w_running : about1.status = .running := rfl
set_option maxRecDepth 65536 in
theorem w_room : about1.hasRoom e0.platform room_1 = true :=
  launch0.hasRoom_least _ room_1 (by decide +kernel) (by decide +kernel) (by decide +kernel) (by decide +kernel) (by decide +kernel) (by decide +kernel)
theorem allAtoms_all (ts : List Jvm.Cond) (a : Array Jvm.Value) (st : Jvm.State) : (allAtoms ts).before a st = ts.all (fun c => c.before a st) := by
  induction ts with
  | nil => rfl
  | cons c t ih =>
    show (Jvm.Cond.and c (allAtoms t)).before a st = _
    rw [Jvm.Cond.before_and, ih, List.all_cons]
def words1 : List Jvm.Cond := Jvm.Cond.code x code maxLocals ret :: tables_1
/-- a 'code' word, met by the world's own term for the bytes: nothing is compared byte by byte -/
theorem code_word {y : MethodName} {bytes : ByteArray} {mx : Nat} {rt : Option FieldType} {a : Array Value} {s : State} {m : MethodId} {meth : Method} {c : Code} (h1 : s.methodNamed? y = some m) (h2 : s.vm.method? m = some meth) (h3 : meth.code = some c) (h4 : c.code = bytes)
    (h5 : (c.maxLocals == mx && c.exceptionTable.isEmpty && decide (c.maxStack ≤ mostOperands) && decide (meth.sig.returnType = rt) && !meth.locks && decide (parseMethodDescriptor y.desc = some meth.sig)) = true) : (Jvm.Cond.code y bytes mx rt).before a s = true := by
  simp only [Bool.and_eq_true, beq_iff_eq, Bool.not_eq_true', decide_eq_true_eq] at h5
  obtain ⟨⟨⟨⟨⟨g1, g2⟩, g3⟩, g4⟩, g5⟩, g6⟩ := h5
  simp [Cond.before, Cond.holds, Cond.value, h1, h2, h3, h4, g1, g2, g3, g4, g5, g6]
def isCode : Jvm.Cond → Bool
  | .code _ _ _ _ => true
  | _ => false
theorem all_split {L : List Jvm.Cond} {P : Jvm.Cond → Bool} (h1 : L.all (fun c => isCode c || P c) = true) (h2 : ∀ c ∈ L.filter isCode, P c = true) : L.all P = true := by
  refine List.all_eq_true.mpr fun c hc => ?_
  have h := List.all_eq_true.mp h1 c hc
  rcases Bool.eq_false_or_eq_true (isCode c) with hi | hi
  · exact h2 c (List.mem_filter.mpr ⟨hc, hi⟩)
  · simpa [hi] using h
set_option maxRecDepth 65536 in
theorem w_c0 : (Jvm.Cond.code x code maxLocals ret).before args0 about1 = true := code_word (m := ⟨1, 3⟩) (meth := k1m3) (c := k1c3) (by decide +kernel) rfl rfl rfl (by decide +kernel)
set_option maxRecDepth 65536 in
theorem w_c1 : (Jvm.Cond.code ({ cls := "com/example/breach_or_proof/breachorproof/Location", name := "<init>", desc := "(II)V" } : Jvm.MethodName) prog_15_method_1_code (3 : Nat) (Option.none : Option Jvm.ClassFile.FieldType)).before args0 about1 = true := code_word (m := ⟨2, 0⟩) (meth := k2m0) (c := k2c0) (by decide +kernel) rfl rfl rfl (by decide +kernel)
set_option maxRecDepth 65536 in
theorem w_c2 : (Jvm.Cond.code ({ cls := "java/lang/Object", name := "<init>", desc := "()V" } : Jvm.MethodName) object_method_1_code (1 : Nat) (Option.none : Option Jvm.ClassFile.FieldType)).before args0 about1 = true := code_word (m := ⟨0, 0⟩) (meth := k0m0) (c := k0c0) (by decide +kernel) rfl rfl rfl (by decide +kernel)
set_option maxRecDepth 65536 in
theorem w_c3 : (Jvm.Cond.code ({ cls := "com/example/breach_or_proof/breachorproof/Process$Nil", name := "<init>", desc := "(Lcom/example/breach_or_proof/breachorproof/Location;)V" } : Jvm.MethodName) prog_34_method_1_code (2 : Nat) (Option.none : Option Jvm.ClassFile.FieldType)).before args0 about1 = true := code_word (m := ⟨4, 0⟩) (meth := k4m0) (c := k4c0) (by decide +kernel) rfl rfl rfl (by decide +kernel)
set_option maxRecDepth 65536 in
theorem w_c4 : (Jvm.Cond.code ({ cls := "com/example/breach_or_proof/breachorproof/Process", name := "<init>", desc := "(Lcom/example/breach_or_proof/breachorproof/Location;)V" } : Jvm.MethodName) prog_26_method_1_code (2 : Nat) (Option.none : Option Jvm.ClassFile.FieldType)).before args0 about1 = true := code_word (m := ⟨3, 0⟩) (meth := k3m0) (c := k3c0) (by decide +kernel) rfl rfl rfl (by decide +kernel)
set_option maxRecDepth 65536 in
theorem w_c5 : (Jvm.Cond.code ({ cls := "java/util/Objects", name := "requireNonNull", desc := "(Ljava/lang/Object;Ljava/lang/String;)Ljava/lang/Object;" } : Jvm.MethodName) jdk_31_method_11_code (2 : Nat) (Option.some (Jvm.ClassFile.FieldType.object "java/lang/Object"))).before args0 about1 = true := code_word (m := ⟨11, 1⟩) (meth := k11m1) (c := k11c1) (by decide +kernel) rfl rfl rfl (by decide +kernel)
set_option maxRecDepth 65536 in
theorem w_c6 : (Jvm.Cond.code ({ cls := "com/example/breach_or_proof/breachorproof/analysis/PathStepEqualsPinLaw", name := "idx", desc := "(I)I" } : Jvm.MethodName) method_2_code (1 : Nat) (Option.some Jvm.ClassFile.FieldType.int)).before args0 about1 = true := code_word (m := ⟨1, 1⟩) (meth := k1m1) (c := k1c1) (by decide +kernel) rfl rfl rfl (by decide +kernel)
set_option maxRecDepth 65536 in
theorem w_c7 : (Jvm.Cond.code ({ cls := "com/example/breach_or_proof/breachorproof/analysis/PathStepEqualsPinLaw", name := "branch", desc := "(I)Lcom/example/breach_or_proof/breachorproof/analysis/PathStep$Branch;" } : Jvm.MethodName) method_3_code (1 : Nat) (Option.some (Jvm.ClassFile.FieldType.object "com/example/breach_or_proof/breachorproof/analysis/PathStep$Branch"))).before args0 about1 = true := code_word (m := ⟨1, 2⟩) (meth := k1m2) (c := k1c2) (by decide +kernel) rfl rfl rfl (by decide +kernel)
set_option maxRecDepth 65536 in
theorem w_c8 : (Jvm.Cond.code ({ cls := "com/example/breach_or_proof/breachorproof/analysis/PathStep", name := "<init>", desc := "(Lcom/example/breach_or_proof/breachorproof/Process;Lcom/example/breach_or_proof/breachorproof/analysis/PathStep$Branch;)V" } : Jvm.MethodName) prog_70_method_1_code (3 : Nat) (Option.none : Option Jvm.ClassFile.FieldType)).before args0 about1 = true := code_word (m := ⟨12, 0⟩) (meth := k12m0) (c := k12c0) (by decide +kernel) rfl rfl rfl (by decide +kernel)
set_option maxRecDepth 65536 in
theorem w_c9 : (Jvm.Cond.code ({ cls := "com/example/breach_or_proof/breachorproof/analysis/PathStep", name := "equals", desc := "(Ljava/lang/Object;)Z" } : Jvm.MethodName) prog_70_method_4_code (3 : Nat) (Option.some Jvm.ClassFile.FieldType.boolean)).before args0 about1 = true := code_word (m := ⟨12, 1⟩) (meth := k12m1) (c := k12c1) (by decide +kernel) rfl rfl rfl (by decide +kernel)
def codes1 : List Jvm.Cond := [Jvm.Cond.code x code maxLocals ret, Jvm.Cond.code ({ cls := "com/example/breach_or_proof/breachorproof/Location", name := "<init>", desc := "(II)V" } : Jvm.MethodName) prog_15_method_1_code (3 : Nat) (Option.none : Option Jvm.ClassFile.FieldType), Jvm.Cond.code ({ cls := "java/lang/Object", name := "<init>", desc := "()V" } : Jvm.MethodName) object_method_1_code (1 : Nat) (Option.none : Option Jvm.ClassFile.FieldType), Jvm.Cond.code ({ cls := "com/example/breach_or_proof/breachorproof/Process$Nil", name := "<init>", desc := "(Lcom/example/breach_or_proof/breachorproof/Location;)V" } : Jvm.MethodName) prog_34_method_1_code (2 : Nat) (Option.none : Option Jvm.ClassFile.FieldType), Jvm.Cond.code ({ cls := "com/example/breach_or_proof/breachorproof/Process", name := "<init>", desc := "(Lcom/example/breach_or_proof/breachorproof/Location;)V" } : Jvm.MethodName) prog_26_method_1_code (2 : Nat) (Option.none : Option Jvm.ClassFile.FieldType), Jvm.Cond.code ({ cls := "java/util/Objects", name := "requireNonNull", desc := "(Ljava/lang/Object;Ljava/lang/String;)Ljava/lang/Object;" } : Jvm.MethodName) jdk_31_method_11_code (2 : Nat) (Option.some (Jvm.ClassFile.FieldType.object "java/lang/Object")), Jvm.Cond.code ({ cls := "com/example/breach_or_proof/breachorproof/analysis/PathStepEqualsPinLaw", name := "idx", desc := "(I)I" } : Jvm.MethodName) method_2_code (1 : Nat) (Option.some Jvm.ClassFile.FieldType.int), Jvm.Cond.code ({ cls := "com/example/breach_or_proof/breachorproof/analysis/PathStepEqualsPinLaw", name := "branch", desc := "(I)Lcom/example/breach_or_proof/breachorproof/analysis/PathStep$Branch;" } : Jvm.MethodName) method_3_code (1 : Nat) (Option.some (Jvm.ClassFile.FieldType.object "com/example/breach_or_proof/breachorproof/analysis/PathStep$Branch")), Jvm.Cond.code ({ cls := "com/example/breach_or_proof/breachorproof/analysis/PathStep", name := "<init>", desc := "(Lcom/example/breach_or_proof/breachorproof/Process;Lcom/example/breach_or_proof/breachorproof/analysis/PathStep$Branch;)V" } : Jvm.MethodName) prog_70_method_1_code (3 : Nat) (Option.none : Option Jvm.ClassFile.FieldType), Jvm.Cond.code ({ cls := "com/example/breach_or_proof/breachorproof/analysis/PathStep", name := "equals", desc := "(Ljava/lang/Object;)Z" } : Jvm.MethodName) prog_70_method_4_code (3 : Nat) (Option.some Jvm.ClassFile.FieldType.boolean)]
set_option maxRecDepth 65536 in
theorem codes_eq : words1.filter isCode = codes1 := rfl
theorem w_codes : ∀ c ∈ words1.filter isCode, c.before args0 about1 = true := by
  rw [codes_eq]
  intro c hc
  simp only [codes1, List.mem_cons, List.not_mem_nil, or_false] at hc
  rcases hc with rfl | rfl | rfl | rfl | rfl | rfl | rfl | rfl | rfl | rfl
  · exact w_c0
  · exact w_c1
  · exact w_c2
  · exact w_c3
  · exact w_c4
  · exact w_c5
  · exact w_c6
  · exact w_c7
  · exact w_c8
  · exact w_c9
set_option maxRecDepth 65536 in
theorem w_t1 : (words1.take 24).all (fun c => isCode c || c.before args0 about1) = true := by decide +kernel
set_option maxRecDepth 65536 in
theorem w_t2 : ((words1.drop 24).take 24).all (fun c => isCode c || c.before args0 about1) = true := by decide +kernel
set_option maxRecDepth 65536 in
theorem w_t3 : (((words1.drop 24).drop 24).take 24).all (fun c => isCode c || c.before args0 about1) = true := by decide +kernel
set_option maxRecDepth 65536 in
theorem w_t4 : (((words1.drop 24).drop 24).drop 24).all (fun c => isCode c || c.before args0 about1) = true := by decide +kernel
theorem w_tables : (allAtoms (Jvm.Cond.code x code maxLocals ret :: tables_1)).before args0 about1 = true := by
  rw [allAtoms_all]
  show words1.all (fun c => c.before args0 about1) = true
  refine all_split ?_ w_codes
  rw [← List.take_append_drop 24 words1, List.all_append, w_t1, ← List.take_append_drop 24 (words1.drop 24), List.all_append, w_t2, ← List.take_append_drop 24 ((words1.drop 24).drop 24), List.all_append, w_t3, w_t4]
  rfl
set_option maxRecDepth 65536 in
theorem w_case : (Jvm.Cond.and given_1 narrow_1).before args0 about1 = true := by decide +kernel
theorem w_applies : (headSpec (Jvm.Cond.code x code maxLocals ret :: tables_1) room_1).applies x e0.platform about1 = true :=
  (Spec.applies_iff w_frames).mpr ⟨w_running, w_runnable, w_alone, w_named, w_hears, w_ripe, w_room, w_tables⟩
theorem atStart : AtStart classFile x code maxLocals ret World_1 tables_1 room_1 Calls_1 rest_1 Pre_1 launch0 p0 e0 about1 theMethod args0 below0 :=
  ⟨lists_1, trivial, launch0.admits_env _ _ _, launch0.least_env, fairChoices_fair.cas, fairChoices_fair.clock, w_frames, w_args, w_heap, w_applies, trivial, trivial, w_case⟩
end start1
theorem witness_1 : WitnessClaimed_1 := ⟨start1.p0, start1.e0, start1.about1, start1.theMethod, start1.args0, start1.below0, start1.atStart⟩
end Jvm.Pilot.@@N@@
