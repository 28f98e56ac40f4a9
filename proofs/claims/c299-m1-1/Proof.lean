import JvmDerived
import JvmDerived.Pilot.@@N@@Statement
import JvmDerived.Pilot.@@N@@Code
set_option linter.unusedVariables false
set_option linter.unusedSimpArgs false
namespace Jvm.Pilot.@@N@@
open Jvm Jvm.ClassFile Sem Op Lib Jvm.Free Jvm.Stand Jvm.LawKit Jvm.RoadKit Bundle Jvm.Pilot.@@N@@.Jvm.D
section OwnKit
variable {p : Program} {l : Launch} {e : Env} {R : Room} {s : State} {m : MethodId} {args : Array Value} {below : List Frame} {meth : Method} {c : Code} {T : State} {locs : List Loc} {cells slots : Nat}
def own_Goes (p : Program) (e : Env) (below : List Frame) (U : State) (Q : Outcome → State → Prop) : Prop := ∃ (t : State) (o : Outcome), Steps p.tables e below U t ∧ t.status = .running ∧ Ended t below o ∧ Q o t
theorem own_go {U U' : State} {Q : Outcome → State → Prop} (k : ∀ t, Steps p.tables e below U' t → Steps p.tables e below U t) (h : own_Goes p e below U' Q) : own_Goes p e below U Q := by
  obtain ⟨t, o, h1, h2⟩ := h
  exact ⟨t, o, k t h1, h2⟩
theorem own_goS {U U' : State} {Q : Outcome → State → Prop} (k : Steps p.tables e below U U') (h : own_Goes p e below U' Q) : own_Goes p e below U Q := own_go (fun t h => k.trans h) h
theorem own_cast {g g' : JFrame} {Q : Outcome → State → Prop} (q : g = g') (h : own_Goes p e below (T.setTop g') Q) : own_Goes p e below (T.setTop g) Q := q ▸ h
def own_PostN (s : State) (Qc : Option Value → Heap → List Loc → Prop) (k n : Nat) : Outcome → State → Prop := fun o t => ∃ v L, o = .returned v ∧ Qc v t.heap L ∧ FrameEnd s o t L k n
def own_PostW (s : State) (Qc : Option Value → Heap → List Loc → Prop) (k n : Nat) : Outcome → State → Prop := fun o t => ∃ v L, o = .returned v ∧ Qc v t.heap L ∧ ReturnedEndW s o t L k n
theorem own_endN (X : Stand p l e R s m args below meth c T locs cells slots) {v : Option Value} (hv : meth.sig.returnType = none → v = none) (hlocks : meth.locks = false) {Qc : Option Value → Heap → List Loc → Prop} {k n : Nat} (hk : cells ≤ k) (hn : slots ≤ n) (hQ : Qc v T.heap locs) {U : State}
    (st : ∀ fs, (∀ (f : JFrame) (acts : List Action), f.method = m → f.locked = none → f.entered = [] → (doReturn e (T.setTop f) acts v).1 = T.setFrames fs) → Steps p.tables e below U (T.setFrames fs)) : own_Goes p e below U (own_PostN s Qc k n) := by
  obtain ⟨fs, hr, hrun, hended, hW, hsame⟩ := X.leave hv hlocks
  exact ⟨_, _, st fs hr, hrun, hended, _, _, rfl, hQ, ⟨_, rfl⟩, hW, hsame.mono hk hn⟩
theorem own_endW {vm0 : Vm} (X : Stand p l e R (s.setVm vm0) m args below meth c T locs cells slots) {q : Nat} (hS : s.Since vm0 q) (hq : q ≤ T.heap.size) {v : Option Value} (hv : meth.sig.returnType = none → v = none) (hlocks : meth.locks = false) {Qc : Option Value → Heap → List Loc → Prop} {k n : Nat} (hk : cells ≤ k) (hn : slots ≤ n) (hQ : Qc v T.heap locs) {U : State}
    (st : ∀ fs, (∀ (f : JFrame) (acts : List Action), f.method = m → f.locked = none → f.entered = [] → (doReturn e (T.setTop f) acts v).1 = T.setFrames fs) → Steps p.tables e below U (T.setFrames fs)) : own_Goes p e below U (own_PostW s Qc k n) := by
  obtain ⟨fs, hr, hrun, hended, h1, h2, h3, h4⟩ := X.leaveW hS hq hv hlocks
  exact ⟨_, _, st fs hr, hrun, hended, _, _, rfl, hQ, h1, h2, h3, h4.mono hk hn⟩
theorem own_NSroot {Z : State} {a0 : Array Value} {O K : String} {n : Nat} (w : (Cond.noSuperclass O).before a0 Z = true) (wk : (Cond.instantiable K n).before a0 Z = true) (hn : O ≠ K) : NS Z O K := by
  obtain ⟨c, k, h1, h2, h3, -, -⟩ := Cond.noSuperclass_spec w
  obtain ⟨t, kt, g1, -⟩ := Cond.instantiable_spec wk
  have ne := ids_ne h1 g1 hn
  refine ⟨c, t, h1, g1, fun fuel => ?_⟩
  cases fuel with
  | zero => rfl
  | succ f => simp [Vm.isSubclassAux, ne, h2, h3]
theorem own_NSno {Z : State} {a0 : Array Value} {C S K : String} {m : Nat} (w : (Cond.superclass C S).before a0 Z = true) (wk : (Cond.instantiable K m).before a0 Z = true) (n : NS Z C K) (hn : C ≠ K) : ∃ c t, Z.vm.findClass C = some c ∧ Z.vm.findClass K = some t ∧ Z.vm.assignable c t = false := by
  obtain ⟨c, t, h0, g0, n3⟩ := n
  obtain ⟨p, k, kp, h1, h2, h3, h4, h5, -, h7⟩ := Cond.superclass_spec h0 w
  obtain ⟨t', k', g1, g2, g5, g7, -⟩ := Cond.instantiable_spec wk
  cases g0.symm.trans g1
  have g8 : k'.isInterface = false := (Bool.or_eq_false_iff.mp g7).1
  have ne := ids_ne h0 g0 hn
  refine ⟨c, t, h0, g0, ?_⟩
  show Z.vm.assignableAux (255 + 1) c t = false
  simp [Vm.assignableAux, ne, h2, g2, h5, g5, g8, Vm.isSubclass, n3]
theorem own_fitsR {v : Value} {t : FieldType} (h : v.isRef = true) (ht : t.isReference = true) : fits t v = true := by
  cases v <;> cases t <;> simp_all [Value.isRef, fits, FieldType.isReference]
theorem own_narR {v : Value} {t : FieldType} (h : v.isRef = true) (ht : t.isReference = true) : narrow t v = v := by
  cases v <;> cases t <;> simp_all [Value.isRef, narrow, FieldType.isReference]
end OwnKit
theorem own_sta {s : State} {args : Array Value} {C n d K : String} (h : (Cond.exactly (Term.static C n d) K).value args s none s [] = some true) (w1 : (Cond.initialized C).before args s = true) (w2 : (Cond.laysStatic C n d).before args s = true) : ∃ w, Sta s s.heap C n d (.ref w) ∧ Exa s s.heap w K := by
  obtain ⟨w, ev⟩ := exa_v h
  exact ⟨w, Sta.start ev (Or.inr ⟨w1, w2⟩), Exa.start ev h⟩
theorem own_strs {Z : State} {a0 : Array Value} (hw : ∀ d ∈ tables_1, d.before a0 Z = true) : ∀ a ∈ Bundle.stringAtoms, a.before a0 Z = true := by
  intro a ha
  simp only [Bundle.stringAtoms, List.mem_cons, List.not_mem_nil, or_false] at ha
  rcases ha with rfl | rfl | rfl | rfl | rfl | rfl | rfl
  · exact (hw _ (List.mem_of_getElem? (i := 16) rfl))
  · exact (hw _ (List.mem_of_getElem? (i := 17) rfl))
  · exact (hw _ (List.mem_of_getElem? (i := 18) rfl))
  · exact (hw _ (List.mem_of_getElem? (i := 19) rfl))
  · exact (hw _ (List.mem_of_getElem? (i := 20) rfl))
  · exact (hw _ (List.mem_of_getElem? (i := 21) rfl))
  · exact (hw _ (List.mem_of_getElem? (i := 22) rfl))
def GG (Z : State) (gw1 : Addr) (gw2 : Addr) (gw3 : Addr) (gw4 : Addr) : Prop := Sta Z Z.heap "com/example/circa_once/circaonce/messaging/ConsumeResult$Kind" "PROCESSED" "Lcom/example/circa_once/circaonce/messaging/ConsumeResult$Kind;" (.ref gw1) ∧ Exa Z Z.heap gw1 "com/example/circa_once/circaonce/messaging/ConsumeResult$Kind" ∧ Sta Z Z.heap "com/example/circa_once/circaonce/messaging/ConsumeResult$Kind" "DUPLICATE" "Lcom/example/circa_once/circaonce/messaging/ConsumeResult$Kind;" (.ref gw2) ∧ Exa Z Z.heap gw2 "com/example/circa_once/circaonce/messaging/ConsumeResult$Kind" ∧ Sta Z Z.heap "com/example/circa_once/circaonce/messaging/ConsumeResult$Kind" "IN_PROGRESS" "Lcom/example/circa_once/circaonce/messaging/ConsumeResult$Kind;" (.ref gw3) ∧ Exa Z Z.heap gw3 "com/example/circa_once/circaonce/messaging/ConsumeResult$Kind" ∧ Sta Z Z.heap "com/example/circa_once/circaonce/messaging/ConsumeResult$Kind" "ID_REUSED" "Lcom/example/circa_once/circaonce/messaging/ConsumeResult$Kind;" (.ref gw4) ∧ Exa Z Z.heap gw4 "com/example/circa_once/circaonce/messaging/ConsumeResult$Kind"
theorem own_d3_0 : decode jdk_31_method_11_code 0 = .ok (.aload_n 0, 1) := by decide +kernel
theorem own_d3_1 : decode jdk_31_method_11_code 1 = .ok (.ifnonnull 12, 3) := by decide +kernel
theorem own_d3_13 : decode jdk_31_method_11_code 13 = .ok (.aload_n 0, 1) := by decide +kernel
theorem own_d3_14 : decode jdk_31_method_11_code 14 = .ok (.areturn, 1) := by decide +kernel
theorem own_pn_java_util_Objects : plainName "java/util/Objects" = true := by first | (simp [plainName, overriddenIn]; done) | decide +kernel
theorem own_ef_rnn (m : MethodId) (xa : Addr) (xb : Addr) : entryFrame m #[(.ref xa), (.ref xb)] 2 = mkF m 0 #[.val (.ref xa), .val (.ref xb)] [] := by first | rfl | (simp [entryFrame, mkF, argsToLocals, Value.category]; done)
def Q_rnn (Z : State) (xa : Addr) (xb : Addr) (h0 : Heap) (n0 : Nat) (v : Option Value) (h : Heap) (L : List Loc) : Prop := Fr n0 L ∧ h = h0 ∧ v = some (.ref xa)
set_option maxRecDepth 65536 in
set_option maxHeartbeats 40000000 in
theorem rnn (l : Launch) (Z : State) (a0 : Array Value) (hw : ∀ d ∈ tables_1, d.before a0 Z = true) (ws : List Jvm.Cond) (xa : Addr) (xb : Addr) (h0 : Heap) (n0 : Nat) (O0 : Old Z n0 h0) :
    MetFree l (⟨"java/util/Objects", "requireNonNull", "(Ljava/lang/Object;Ljava/lang/String;)Ljava/lang/Object;"⟩ : MethodName) (head1 (Jvm.Cond.code (⟨"java/util/Objects", "requireNonNull", "(Ljava/lang/Object;Ljava/lang/String;)Ljava/lang/Object;"⟩ : MethodName) jdk_31_method_11_code 2 (some (.object "java/lang/Object")) :: ws) ({ frames := 0, cells := 0, slots := 0, locals := 0 } : Room)) (fun as_ U_ => as_ = #[(.ref xa), (.ref xb)] ∧ Z.Warmed39 U_.vm ∧ U_.heap = h0) (fun _ _ _ _ _ => True) (fun _ U_ o_ U2_ => ∃ v_ L_, o_ = .returned v_ ∧ Q_rnn Z xa xb h0 n0 v_ U2_.heap L_ ∧ FrameEnd U_ o_ U2_ L_ ({ frames := 0, cells := 0, slots := 0, locals := 0 } : Room).cells ({ frames := 0, cells := 0, slots := 0, locals := 0 } : Room).slots) := by
  refine MetFree.of_bodySF (plainFor_of_name own_pn_java_util_Objects) hisR ?_
  intro p e s m args below meth c s₁ Bd hml0 hP hK
  obtain ⟨rfl, hZ, hh⟩ := hP
  have hx := Bd.exec
  have hby := Bd.bytes
  have hml : c.maxLocals = 2 := hml0
  have hown : s.vm.findClass "java/util/Objects" = some m.cls := findClass_of_methodNamed Bd.named
  have hnm := (name_of_methodNamed Bd.named Bd.method).1
  have hlk : meth.locks = false := Bd.notSynchronized
  have hret := Bd.returns
  have X0 : Stand p l e ({ frames := 0, cells := 0, slots := 0, locals := 0 } : Room) s m #[(.ref xa), (.ref xb)] below meth c s₁ [] 0 0 := Stand.of_body Bd
  have e0 : s₁.heap = h0 := by rw [← hh, Bd.state]; rfl
  have N0 := Fr.nil n0
  have z0 : Z.heap.size = n0 := O0.1
  have z1 : n0 ≤ h0.size := z0 ▸ O0.2.1
  show own_Goes p e below (s₁.setTop (entryFrame m #[(.ref xa), (.ref xb)] 2)) (own_PostN s (Q_rnn Z xa xb h0 n0) ({ frames := 0, cells := 0, slots := 0, locals := 0 } : Room).cells ({ frames := 0, cells := 0, slots := 0, locals := 0 } : Room).slots)
  refine own_cast (own_ef_rnn m xa xb) ?_
  show own_Goes p e below (s₁.setTop (mkF m 0 #[.val (.ref xa), .val (.ref xb)] [])) _
  refine own_go (fun t_ k_ => XS.aloadN X0.here hx rfl (hb hby own_d3_0) rfl rfl k_) ?_
  show own_Goes p e below (s₁.setTop (mkF m 1 #[.val (.ref xa), .val (.ref xb)] [(.ref xa)])) _
  refine own_go (fun t_ k_ => XS.ifnonnullYes X0.here hx rfl (pc0 := 1) (pc' := 13) rfl (hb hby own_d3_1) rfl (by decide) (by decide) k_) ?_
  show own_Goes p e below (s₁.setTop (mkF m 13 #[.val (.ref xa), .val (.ref xb)] [])) _
  refine own_go (fun t_ k_ => XS.aloadN X0.here hx rfl (hb hby own_d3_13) rfl rfl k_) ?_
  show own_Goes p e below (s₁.setTop (mkF m 14 #[.val (.ref xa), .val (.ref xb)] [(.ref xa)])) _
  refine own_endN X0 (v := (some (.ref xa))) (fun h => by rw [hret] at h; cases h) hlk (by decide) (by decide) ?_ (fun fs hr => retOut X0 hx hret rfl (Or.inr (Or.inr (Or.inr (Or.inr ⟨rfl, rfl, rfl⟩)))) (hb hby own_d3_14) hr)
  show Q_rnn Z xa xb h0 n0 _ s₁.heap _
  rw [e0]
  exact ⟨N0, rfl, rfl⟩
theorem own_d4_0 : decode prog_7_method_1_code 0 = .ok (.aload_n 0, 1) := by decide +kernel
theorem own_d4_1 : decode prog_7_method_1_code 1 = .ok (.invokespecial 1, 3) := by decide +kernel
theorem own_d4_4 : decode prog_7_method_1_code 4 = .ok (.aload_n 0, 1) := by decide +kernel
theorem own_d4_5 : decode prog_7_method_1_code 5 = .ok (.aload_n 1, 1) := by decide +kernel
theorem own_d4_6 : decode prog_7_method_1_code 6 = .ok (.putfield 7, 3) := by decide +kernel
theorem own_d4_9 : decode prog_7_method_1_code 9 = .ok (.return_, 1) := by decide +kernel
theorem own_pn_com_example_circa_once_circaonce_messaging_ConsumeResult : plainName "com/example/circa_once/circaonce/messaging/ConsumeResult" = true := by first | (simp [plainName, overriddenIn]; done) | decide +kernel
theorem own_ef_ini (m : MethodId) (xa : Addr) (xk : Addr) : entryFrame m #[(.ref xa), (.ref xk)] 2 = mkF m 0 #[.val (.ref xa), .val (.ref xk)] [] := by first | rfl | (simp [entryFrame, mkF, argsToLocals, Value.category]; done)
def Q_ini (Z : State) (xa : Addr) (xk : Addr) (h0 : Heap) (n0 : Nat) (v : Option Value) (h : Heap) (L : List Loc) : Prop := Fr n0 L ∧ Keep h0 h [xa] ∧ v = none ∧ Fld Z h xa "com/example/circa_once/circaonce/messaging/ConsumeResult" "kind" "Lcom/example/circa_once/circaonce/messaging/ConsumeResult$Kind;" (.ref xk)
set_option maxRecDepth 65536 in
set_option maxHeartbeats 40000000 in
theorem ini (l : Launch) (Z : State) (a0 : Array Value) (hw : ∀ d ∈ tables_1, d.before a0 Z = true) (ws : List Jvm.Cond) (xa : Addr) (xk : Addr) (h0 : Heap) (n0 : Nat) (O0 : Old Z n0 h0) (P0 : Exa Z h0 xa "com/example/circa_once/circaonce/messaging/ConsumeResult") (P1 : Fld Z h0 xa "com/example/circa_once/circaonce/messaging/ConsumeResult" "kind" "Lcom/example/circa_once/circaonce/messaging/ConsumeResult$Kind;" .null) (P2 : n0 ≤ xa) :
    MetFree l (⟨"com/example/circa_once/circaonce/messaging/ConsumeResult", "<init>", "(Lcom/example/circa_once/circaonce/messaging/ConsumeResult$Kind;)V"⟩ : MethodName) (head1 (Jvm.Cond.code (⟨"com/example/circa_once/circaonce/messaging/ConsumeResult", "<init>", "(Lcom/example/circa_once/circaonce/messaging/ConsumeResult$Kind;)V"⟩ : MethodName) prog_7_method_1_code 2 none :: ws) ({ frames := 1, cells := 0, slots := 0, locals := 12 } : Room)) (fun as_ U_ => as_ = #[(.ref xa), (.ref xk)] ∧ Z.Warmed39 U_.vm ∧ U_.heap = h0) (fun _ _ _ _ _ => True) (fun _ U_ o_ U2_ => ∃ v_ L_, o_ = .returned v_ ∧ Q_ini Z xa xk h0 n0 v_ U2_.heap L_ ∧ FrameEnd U_ o_ U2_ L_ ({ frames := 1, cells := 0, slots := 0, locals := 12 } : Room).cells ({ frames := 1, cells := 0, slots := 0, locals := 12 } : Room).slots) := by
  refine MetFree.of_bodySF (plainFor_of_name own_pn_com_example_circa_once_circaonce_messaging_ConsumeResult) hisR ?_
  intro p e s m args below meth c s₁ Bd hml0 hP hK
  obtain ⟨rfl, hZ, hh⟩ := hP
  have hx := Bd.exec
  have hby := Bd.bytes
  have hml : c.maxLocals = 2 := hml0
  have hown : s.vm.findClass "com/example/circa_once/circaonce/messaging/ConsumeResult" = some m.cls := findClass_of_methodNamed Bd.named
  have hnm := (name_of_methodNamed Bd.named Bd.method).1
  have hlk : meth.locks = false := Bd.notSynchronized
  have hret := Bd.returns
  have X0 : Stand p l e ({ frames := 1, cells := 0, slots := 0, locals := 12 } : Room) s m #[(.ref xa), (.ref xk)] below meth c s₁ [] 0 0 := Stand.of_body Bd
  have e0 : s₁.heap = h0 := by rw [← hh, Bd.state]; rfl
  have N0 := Fr.nil n0
  have z0 : Z.heap.size = n0 := O0.1
  have z1 : n0 ≤ h0.size := z0 ▸ O0.2.1
  have K0 : Keep h0 h0 [xa] := Keep.refl _ _
  show own_Goes p e below (s₁.setTop (entryFrame m #[(.ref xa), (.ref xk)] 2)) (own_PostN s (Q_ini Z xa xk h0 n0) ({ frames := 1, cells := 0, slots := 0, locals := 12 } : Room).cells ({ frames := 1, cells := 0, slots := 0, locals := 12 } : Room).slots)
  refine own_cast (own_ef_ini m xa xk) ?_
  show own_Goes p e below (s₁.setTop (mkF m 0 #[.val (.ref xa), .val (.ref xk)] [])) _
  have ltP0 : xa < h0.size := P0.lt
  refine own_go (fun t_ k_ => XS.aloadN X0.here hx rfl (hb hby own_d4_0) rfl rfl k_) ?_
  show own_Goes p e below (s₁.setTop (mkF m 1 #[.val (.ref xa), .val (.ref xk)] [(.ref xa)])) _
  obtain ⟨T1, X1, e1, st1⟩ := initO X0 hx hZ hown (hw _ (List.mem_of_getElem? (i := 32) rfl)) (hw _ (List.mem_of_getElem? (i := 33) rfl)) (hw _ (List.mem_of_getElem? (i := 34) rfl)) e0 (g := (mkF m 1 #[.val (.ref xa), .val (.ref xk)] [(.ref xa)])) rfl (by rw [hml]; rfl) rfl (hb hby own_d4_1) (by decide) (W := 0) (by show 2 * 0 + _ ≤ _; exact Nat.le_of_eq rfl) (by decide)
  refine own_go st1 ?_
  show own_Goes p e below (T1.setTop (mkF m 4 #[.val (.ref xa), .val (.ref xk)] [])) _
  refine own_go (fun t_ k_ => XS.aloadN X1.here hx rfl (hb hby own_d4_4) rfl rfl k_) ?_
  show own_Goes p e below (T1.setTop (mkF m 5 #[.val (.ref xa), .val (.ref xk)] [(.ref xa)])) _
  refine own_go (fun t_ k_ => XS.aloadN X1.here hx rfl (hb hby own_d4_5) rfl rfl k_) ?_
  show own_Goes p e below (T1.setTop (mkF m 6 #[.val (.ref xa), .val (.ref xk)] [(.ref xk), (.ref xa)])) _
  obtain ⟨T2, h2, X2, e2, W2, st2⟩ := putF X1 hx hZ hown (host := "") (Or.inl (hw _ (List.mem_of_getElem? (i := 35) rfl))) Via.refl e1 P1 P0 (Or.inr ⟨(hw _ (List.mem_of_getElem? (i := 36) rfl)), rfl, hnm⟩) (hw _ (List.mem_of_getElem? (i := 14) rfl)) (ty := (.object "com/example/circa_once/circaonce/messaging/ConsumeResult$Kind")) (by decide) rfl rfl (g := (mkF m 6 #[.val (.ref xa), .val (.ref xk)] [(.ref xk), (.ref xa)])) rfl rfl (hb hby own_d4_6)
  refine own_go st2 ?_
  have O3 := O0.wr W2 (show n0 ≤ xa by omega)
  have sz4 : h2.size = h0.size := Wr.size W2
  have K5 := K0.wr W2 (Or.inl (List.mem_of_getElem? (i := 0) rfl))
  have N2 := Fr.snoc X2 N0 (show n0 ≤ xa by omega)
  have Fw2 := P1.same W2
  show own_Goes p e below (T2.setTop (mkF m 9 #[.val (.ref xa), .val (.ref xk)] [])) _
  refine own_endN X2 (v := none) (fun _ => rfl) hlk (by decide) (by decide) ?_ (fun fs hr => X2.returnOut hx hret (hb hby own_d4_9) hr)
  show Q_ini Z xa xk h0 n0 _ T2.heap _
  rw [e2]
  exact ⟨N2, K5, rfl, Fw2⟩
theorem own_d6_0 : decode prog_7_method_3_code 0 = .ok (.aload_n 0, 1) := by decide +kernel
theorem own_d6_1 : decode prog_7_method_3_code 1 = .ok (.getfield 7, 3) := by decide +kernel
theorem own_d6_4 : decode prog_7_method_3_code 4 = .ok (.areturn, 1) := by decide +kernel
theorem own_ef_knd (m : MethodId) (xa : Addr) : entryFrame m #[(.ref xa)] 1 = mkF m 0 #[.val (.ref xa)] [] := by first | rfl | (simp [entryFrame, mkF, argsToLocals, Value.category]; done)
def Q_knd (Z : State) (xa : Addr) (xk : Addr) (h0 : Heap) (n0 : Nat) (v : Option Value) (h : Heap) (L : List Loc) : Prop := Fr n0 L ∧ h = h0 ∧ v = some (.ref xk)
set_option maxRecDepth 65536 in
set_option maxHeartbeats 40000000 in
theorem knd (l : Launch) (Z : State) (a0 : Array Value) (hw : ∀ d ∈ tables_1, d.before a0 Z = true) (ws : List Jvm.Cond) (xa : Addr) (xk : Addr) (h0 : Heap) (n0 : Nat) (O0 : Old Z n0 h0) (P0 : Fld Z h0 xa "com/example/circa_once/circaonce/messaging/ConsumeResult" "kind" "Lcom/example/circa_once/circaonce/messaging/ConsumeResult$Kind;" (.ref xk)) :
    MetFree l (⟨"com/example/circa_once/circaonce/messaging/ConsumeResult", "kind", "()Lcom/example/circa_once/circaonce/messaging/ConsumeResult$Kind;"⟩ : MethodName) (head1 (Jvm.Cond.code (⟨"com/example/circa_once/circaonce/messaging/ConsumeResult", "kind", "()Lcom/example/circa_once/circaonce/messaging/ConsumeResult$Kind;"⟩ : MethodName) prog_7_method_3_code 1 (some (.object "com/example/circa_once/circaonce/messaging/ConsumeResult$Kind")) :: ws) ({ frames := 0, cells := 0, slots := 0, locals := 0 } : Room)) (fun as_ U_ => as_ = #[(.ref xa)] ∧ Z.Warmed39 U_.vm ∧ U_.heap = h0) (fun _ _ _ _ _ => True) (fun _ U_ o_ U2_ => ∃ v_ L_, o_ = .returned v_ ∧ Q_knd Z xa xk h0 n0 v_ U2_.heap L_ ∧ FrameEnd U_ o_ U2_ L_ ({ frames := 0, cells := 0, slots := 0, locals := 0 } : Room).cells ({ frames := 0, cells := 0, slots := 0, locals := 0 } : Room).slots) := by
  refine MetFree.of_bodySF (plainFor_of_name own_pn_com_example_circa_once_circaonce_messaging_ConsumeResult) hisR ?_
  intro p e s m args below meth c s₁ Bd hml0 hP hK
  obtain ⟨rfl, hZ, hh⟩ := hP
  have hx := Bd.exec
  have hby := Bd.bytes
  have hml : c.maxLocals = 1 := hml0
  have hown : s.vm.findClass "com/example/circa_once/circaonce/messaging/ConsumeResult" = some m.cls := findClass_of_methodNamed Bd.named
  have hnm := (name_of_methodNamed Bd.named Bd.method).1
  have hlk : meth.locks = false := Bd.notSynchronized
  have hret := Bd.returns
  have X0 : Stand p l e ({ frames := 0, cells := 0, slots := 0, locals := 0 } : Room) s m #[(.ref xa)] below meth c s₁ [] 0 0 := Stand.of_body Bd
  have e0 : s₁.heap = h0 := by rw [← hh, Bd.state]; rfl
  have N0 := Fr.nil n0
  have z0 : Z.heap.size = n0 := O0.1
  have z1 : n0 ≤ h0.size := z0 ▸ O0.2.1
  show own_Goes p e below (s₁.setTop (entryFrame m #[(.ref xa)] 1)) (own_PostN s (Q_knd Z xa xk h0 n0) ({ frames := 0, cells := 0, slots := 0, locals := 0 } : Room).cells ({ frames := 0, cells := 0, slots := 0, locals := 0 } : Room).slots)
  refine own_cast (own_ef_knd m xa) ?_
  show own_Goes p e below (s₁.setTop (mkF m 0 #[.val (.ref xa)] [])) _
  refine own_go (fun t_ k_ => XS.aloadN X0.here hx rfl (hb hby own_d6_0) rfl rfl k_) ?_
  show own_Goes p e below (s₁.setTop (mkF m 1 #[.val (.ref xa)] [(.ref xa)])) _
  obtain ⟨T1, X1, e1, st1⟩ := getF X0 hx hZ hown (host := "") (Or.inl (hw _ (List.mem_of_getElem? (i := 35) rfl))) Via.refl e0 P0 (g := (mkF m 1 #[.val (.ref xa)] [(.ref xa)])) rfl rfl (hb hby own_d6_1)
  refine own_go st1 ?_
  show own_Goes p e below (T1.setTop (mkF m 4 #[.val (.ref xa)] [(.ref xk)])) _
  refine own_endN X1 (v := (some (.ref xk))) (fun h => by rw [hret] at h; cases h) hlk (by decide) (by decide) ?_ (fun fs hr => retOut X1 hx hret rfl (Or.inr (Or.inr (Or.inr (Or.inr ⟨rfl, rfl, rfl⟩)))) (hb hby own_d6_4) hr)
  show Q_knd Z xa xk h0 n0 _ T1.heap _
  rw [e1]
  exact ⟨N0, rfl, rfl⟩
theorem own_d2_0 : decode prog_7_method_2_code 0 = .ok (.new 8, 3) := by decide +kernel
theorem own_d2_3 : decode prog_7_method_2_code 3 = .ok (.dup, 1) := by decide +kernel
theorem own_d2_4 : decode prog_7_method_2_code 4 = .ok (.aload_n 0, 1) := by decide +kernel
theorem own_d2_5 : decode prog_7_method_2_code 5 = .ok (.ldc 13, 2) := by decide +kernel
theorem own_d2_7 : decode prog_7_method_2_code 7 = .ok (.invokestatic 14, 3) := by decide +kernel
theorem own_pd_0 : parseMethodDescriptor "(Ljava/lang/Object;Ljava/lang/String;)Ljava/lang/Object;" = some ⟨[(.object "java/lang/Object"), (.object "java/lang/String")], some (.object "java/lang/Object")⟩ := by decide +kernel
abbrev own_m1 : MethodName := ⟨"java/util/Objects", "requireNonNull", "(Ljava/lang/Object;Ljava/lang/String;)Ljava/lang/Object;"⟩
theorem own_d2_10 : decode prog_7_method_2_code 10 = .ok (.checkcast 20, 3) := by decide +kernel
theorem own_d2_13 : decode prog_7_method_2_code 13 = .ok (.invokespecial 22, 3) := by decide +kernel
theorem own_pd_2 : parseMethodDescriptor "(Lcom/example/circa_once/circaonce/messaging/ConsumeResult$Kind;)V" = some ⟨[(.object "com/example/circa_once/circaonce/messaging/ConsumeResult$Kind")], none⟩ := by decide +kernel
abbrev own_m3 : MethodName := ⟨"com/example/circa_once/circaonce/messaging/ConsumeResult", "<init>", "(Lcom/example/circa_once/circaonce/messaging/ConsumeResult$Kind;)V"⟩
theorem own_d2_16 : decode prog_7_method_2_code 16 = .ok (.areturn, 1) := by decide +kernel
theorem own_ef_of (m : MethodId) (xk : Addr) : entryFrame m #[(.ref xk)] 1 = mkF m 0 #[.val (.ref xk)] [] := by first | rfl | (simp [entryFrame, mkF, argsToLocals, Value.category]; done)
def Q_of (Z : State) (xk : Addr) (h0 : Heap) (n0 : Nat) (v : Option Value) (h : Heap) (L : List Loc) : Prop := Fr n0 L ∧ Keep h0 h [] ∧ ∃ (r : Addr), v = some (.ref r) ∧ Exa Z h r "com/example/circa_once/circaonce/messaging/ConsumeResult" ∧ Fld Z h r "com/example/circa_once/circaonce/messaging/ConsumeResult" "kind" "Lcom/example/circa_once/circaonce/messaging/ConsumeResult$Kind;" (.ref xk) ∧ h0.size ≤ r
set_option maxRecDepth 65536 in
set_option maxHeartbeats 40000000 in
theorem of (l : Launch) (Z : State) (a0 : Array Value) (hw : ∀ d ∈ tables_1, d.before a0 Z = true) (ws : List Jvm.Cond) (xk : Addr) (h0 : Heap) (n0 : Nat) (O0 : Old Z n0 h0) (P0 : Exa Z h0 xk "com/example/circa_once/circaonce/messaging/ConsumeResult$Kind") :
    MetFree l (⟨"com/example/circa_once/circaonce/messaging/ConsumeResult", "of", "(Lcom/example/circa_once/circaonce/messaging/ConsumeResult$Kind;)Lcom/example/circa_once/circaonce/messaging/ConsumeResult;"⟩ : MethodName) (head1 (Jvm.Cond.code (⟨"com/example/circa_once/circaonce/messaging/ConsumeResult", "of", "(Lcom/example/circa_once/circaonce/messaging/ConsumeResult$Kind;)Lcom/example/circa_once/circaonce/messaging/ConsumeResult;"⟩ : MethodName) prog_7_method_2_code 1 (some (.object "com/example/circa_once/circaonce/messaging/ConsumeResult")) :: ws) ({ frames := 2, cells := 3, slots := 21, locals := 26 } : Room)) (fun as_ U_ => as_ = #[(.ref xk)] ∧ Z.Warmed39 U_.vm ∧ U_.heap = h0) (fun _ _ _ _ _ => True) (fun _ U_ o_ U2_ => ∃ v_ L_, o_ = .returned v_ ∧ Q_of Z xk h0 n0 v_ U2_.heap L_ ∧ ReturnedEndW U_ o_ U2_ L_ ({ frames := 2, cells := 3, slots := 21, locals := 26 } : Room).cells ({ frames := 2, cells := 3, slots := 21, locals := 26 } : Room).slots) := by
  refine MetFree.of_bodySF (plainFor_of_name own_pn_com_example_circa_once_circaonce_messaging_ConsumeResult) hisR ?_
  intro p e s m args below meth c s₁ Bd hml0 hP hK
  obtain ⟨rfl, hZ, hh⟩ := hP
  have hx := Bd.exec
  have hby := Bd.bytes
  have hml : c.maxLocals = 1 := hml0
  have hown : s.vm.findClass "com/example/circa_once/circaonce/messaging/ConsumeResult" = some m.cls := findClass_of_methodNamed Bd.named
  have hnm := (name_of_methodNamed Bd.named Bd.method).1
  have hlk : meth.locks = false := Bd.notSynchronized
  have hret := Bd.returns
  have X0 : Stand p l e ({ frames := 2, cells := 3, slots := 21, locals := 26 } : Room) s m #[(.ref xk)] below meth c s₁ [] 0 0 := Stand.of_body Bd
  have e0 : s₁.heap = h0 := by rw [← hh, Bd.state]; rfl
  have N0 := Fr.nil n0
  have z0 : Z.heap.size = n0 := O0.1
  have z1 : n0 ≤ h0.size := z0 ▸ O0.2.1
  have K0 : Keep h0 h0 [] := Keep.refl _ _
  have hS0 : s.Since s.vm 0 := (State.WarmedH.refl s).since 0
  have hk0 : 0 ≤ h0.size := Nat.zero_le _
  replace X0 : Stand p l e ({ frames := 2, cells := 3, slots := 21, locals := 26 } : Room) (s.setVm s.vm) m #[(.ref xk)] below meth c s₁ [] 0 0 := X0
  show own_Goes p e below (s₁.setTop (entryFrame m #[(.ref xk)] 1)) (own_PostW s (Q_of Z xk h0 n0) ({ frames := 2, cells := 3, slots := 21, locals := 26 } : Room).cells ({ frames := 2, cells := 3, slots := 21, locals := 26 } : Room).slots)
  refine own_cast (own_ef_of m xk) ?_
  show own_Goes p e below (s₁.setTop (mkF m 0 #[.val (.ref xk)] [])) _
  have ltP0 : xk < h0.size := P0.lt
  obtain ⟨T1, h1, X1, e1, E1, A1, D1, -, st1⟩ := newO X0 hx hZ hown (hw _ (List.mem_of_getElem? (i := 13) rfl)) (hw _ (List.mem_of_getElem? (i := 14) rfl)) (hw _ (List.mem_of_getElem? (i := 11) rfl)) e0 (g := (mkF m 0 #[.val (.ref xk)] [])) rfl (hb hby own_d2_0) (by decide) (by decide)
  obtain ⟨b1, g1⟩ : ∃ z, z = h0.size := ⟨_, rfl⟩
  rw [← g1] at A1 D1 st1
  refine own_go st1 ?_
  have O2 := O0.ext E1
  have sz3 : h0.size ≤ h1.size := E1.1
  have hk4 := Nat.le_trans hk0 E1.1
  have K5 := K0.ext E1
  have l1 : b1 < h1.size := A1.lt
  have F1_kind : Fld Z h1 b1 "com/example/circa_once/circaonce/messaging/ConsumeResult" "kind" "Lcom/example/circa_once/circaonce/messaging/ConsumeResult$Kind;" .null := D1 (Or.inr (hw _ (List.mem_of_getElem? (i := 36) rfl))) (ty := (.object "com/example/circa_once/circaonce/messaging/ConsumeResult$Kind")) (by decide)
  show own_Goes p e below (T1.setTop (mkF m 3 #[.val (.ref xk)] [(.ref b1)])) _
  refine own_go (fun t_ k_ => XS.dup X1.here hx rfl (hb hby own_d2_3) rfl rfl k_) ?_
  show own_Goes p e below (T1.setTop (mkF m 4 #[.val (.ref xk)] [(.ref b1), (.ref b1)])) _
  refine own_go (fun t_ k_ => XS.aloadN X1.here hx rfl (hb hby own_d2_4) rfl rfl k_) ?_
  show own_Goes p e below (T1.setTop (mkF m 5 #[.val (.ref xk)] [(.ref xk), (.ref b1), (.ref b1)])) _
  obtain ⟨a6, T6, h6, k6, X6, e6, E6, hS6, hk6, hZ6, hown6, st6⟩ := ldcS (s := s) (vm0 := s.vm) X1 hx hZ hown (hw _ (List.mem_of_getElem? (i := 15) rfl)) (own_strs hw) e1 hS0 hk4 (g := (mkF m 5 #[.val (.ref xk)] [(.ref xk), (.ref b1), (.ref b1)])) rfl (hb hby own_d2_5) (n := 16) (by decide) (by decide) (by decide) (by decide)
  refine own_go st6 ?_
  have O7 := O2.ext E6
  have sz8 : h1.size ≤ h6.size := E6.1
  have K9 := K5.ext E6
  show own_Goes p e below (T6.setTop (mkF m 7 #[.val (.ref xk)] [(.ref a6), (.ref xk), (.ref b1), (.ref b1)])) _
  obtain ⟨_, _, ⟨T10, L10, k10, n10⟩, -, X10, ⟨Lc10, hQ10, l10, y10, z10⟩, st10⟩ := Jvm.LawKit.callS X6 hx (y := own_m1) hown6 (mvT hZ6 (hw _ (List.mem_of_getElem? (i := 23) rfl))) (mvT hZ6 (hw _ (List.mem_of_getElem? (i := 24) rfl))) (mvT hZ6 (hw _ (List.mem_of_getElem? (i := 25) rfl))) (mvT hZ6 (hw _ (List.mem_of_getElem? (i := 26) rfl))) (by decide) (backOf (W := 2) (rnn l Z a0 hw [] xk a6 h6 n0 O7) hZ6 (hw _ (List.mem_of_getElem? (i := 26) rfl)) (hw _ (List.mem_of_getElem? (i := 25) rfl)) (by decide) (by decide)) (g := (mkF m 7 #[.val (.ref xk)] [(.ref a6), (.ref xk), (.ref b1), (.ref b1)])) rfl (by rw [hml]; rfl) (argsL := [(.ref xk), (.ref a6)]) (rest := [(.ref b1), (.ref b1)]) (lenOf own_pd_0 rfl) rfl (by show 2 * 0 + _ ≤ _; exact Nat.le_of_eq rfl) (hb hby own_d2_7) (fun _ _ => ⟨rfl, e6, (by decide : 3 + 0 ≤ _), (by decide : 21 + 0 ≤ _)⟩)
  dsimp only [Pt.U, Pt.locs, Pt.cells, Pt.slots] at X10 l10 y10 z10 st10 hQ10
  subst l10 y10 z10
  obtain ⟨Nc10, e10, rfl⟩ := hQ10
  have N10 := Fr.app N0 Nc10
  refine own_go st10 ?_
  show own_Goes p e below (T10.setTop (mkF m 10 #[.val (.ref xk)] [(.ref xk), (.ref b1), (.ref b1)])) _
  have f11 := ((P0.ext E1).ext E6)
  obtain ⟨T12, X12, e12, st12⟩ := castY X10 hx hZ6 hown6 (hw _ (List.mem_of_getElem? (i := 27) rfl)) e10 (Ins.self f11) (g := (mkF m 10 #[.val (.ref xk)] [(.ref xk), (.ref b1), (.ref b1)])) rfl rfl (hb hby own_d2_10)
  refine own_go st12 ?_
  show own_Goes p e below (T12.setTop (mkF m 13 #[.val (.ref xk)] [(.ref xk), (.ref b1), (.ref b1)])) _
  have f13 := (A1.ext E6)
  have f14 := (F1_kind.ext E6)
  obtain ⟨_, _, ⟨T15, L15, k15, n15⟩, -, X15, ⟨Lc15, hQ15, l15, y15, z15⟩, st15⟩ := X12.specialBack hx (y := own_m3) rfl hown6 (mvT hZ6 (hw _ (List.mem_of_getElem? (i := 29) rfl))) (mvT hZ6 (hw _ (List.mem_of_getElem? (i := 30) rfl))) (mvT hZ6 (hw _ (List.mem_of_getElem? (i := 31) rfl))) (by decide) (backOf (W := 1) (ini l Z a0 hw [] b1 xk h6 n0 O7 f13 f14 (show n0 ≤ b1 by first | assumption | omega | decide)) hZ6 (hw _ (List.mem_of_getElem? (i := 31) rfl)) (hw _ (List.mem_of_getElem? (i := 11) rfl)) (by decide) (by decide)) (g := (mkF m 13 #[.val (.ref xk)] [(.ref xk), (.ref b1), (.ref b1)])) rfl (by rw [hml]; rfl) (Steps.refl _) (a := b1) (argsL := [(.ref xk)]) (rest := [(.ref b1)]) (lenOf own_pd_2 rfl) rfl (by show 2 * 0 + _ ≤ _; exact Nat.le_of_eq rfl) (hb hby own_d2_13) (fun _ _ => ⟨rfl, e12, (by decide : 3 + 0 ≤ _), (by decide : 21 + 0 ≤ _)⟩)
  dsimp only [Pt.U, Pt.locs, Pt.cells, Pt.slots] at X15 l15 y15 z15 st15 hQ15
  subst l15 y15 z15
  obtain ⟨h15, e15⟩ : ∃ z, T15.heap = z := ⟨_, rfl⟩
  rw [e15] at hQ15
  obtain ⟨Nc15, Kc15, rfl, c15_0⟩ := hQ15
  have N15 := Fr.app N10 Nc15
  have O16 := O7.keep Kc15 (allS (show n0 ≤ b1 by omega) all0)
  have sz17 : h6.size ≤ h15.size := Kc15.1
  have hk18 := Nat.le_trans hk6 Kc15.1
  have K19 := Keep.trans K9 Kc15 (allS (Or.inr (show h0.size ≤ b1 by omega)) all0)
  refine own_goS st15 ?_
  show own_Goes p e below (T15.setTop (mkF m 16 #[.val (.ref xk)] [(.ref b1)])) _
  refine own_endW X15 hS6 (show _ ≤ T15.heap.size by rw [e15]; exact hk18) (v := (some (.ref b1))) (fun h => by rw [hret] at h; cases h) hlk (by decide) (by decide) ?_ (fun fs hr => retOut X15 hx hret rfl (Or.inr (Or.inr (Or.inr (Or.inr ⟨rfl, rfl, rfl⟩)))) (hb hby own_d2_16) hr)
  show Q_of Z xk h0 n0 _ T15.heap _
  rw [e15]
  have f20 := (f13.keep Kc15)
  exact ⟨N15, K19, b1, rfl, f20, c15_0, (show h0.size ≤ b1 by first | assumption | omega | decide)⟩
theorem own_d1_0 : decode method_2_code 0 = .ok (.iload_n 0, 1) := by decide +kernel
theorem own_d1_1 : decode method_2_code 1 = .ok (.iconst 3, 1) := by decide +kernel
theorem own_d1_2 : decode method_2_code 2 = .ok (.iand, 1) := by decide +kernel
theorem own_d1_3 : decode method_2_code 3 = .ok (.istore_n 1, 1) := by decide +kernel
theorem own_d1_4 : decode method_2_code 4 = .ok (.iload_n 1, 1) := by decide +kernel
theorem own_d1_5 : decode method_2_code 5 = .ok (.ifCond .ne 7, 3) := by decide +kernel
theorem own_d1_8 : decode method_2_code 8 = .ok (.getstatic 7, 3) := by decide +kernel
theorem own_d1_11 : decode method_2_code 11 = .ok (.areturn, 1) := by decide +kernel
theorem own_d1_12 : decode method_2_code 12 = .ok (.iload_n 1, 1) := by decide +kernel
theorem own_d1_13 : decode method_2_code 13 = .ok (.iconst 1, 1) := by decide +kernel
theorem own_d1_14 : decode method_2_code 14 = .ok (.if_icmp .ne 7, 3) := by decide +kernel
theorem own_d1_17 : decode method_2_code 17 = .ok (.getstatic 13, 3) := by decide +kernel
theorem own_d1_20 : decode method_2_code 20 = .ok (.areturn, 1) := by decide +kernel
theorem own_d1_21 : decode method_2_code 21 = .ok (.iload_n 1, 1) := by decide +kernel
theorem own_d1_22 : decode method_2_code 22 = .ok (.iconst 2, 1) := by decide +kernel
theorem own_d1_23 : decode method_2_code 23 = .ok (.if_icmp .ne 7, 3) := by decide +kernel
theorem own_d1_26 : decode method_2_code 26 = .ok (.getstatic 16, 3) := by decide +kernel
theorem own_d1_29 : decode method_2_code 29 = .ok (.areturn, 1) := by decide +kernel
theorem own_d1_30 : decode method_2_code 30 = .ok (.getstatic 19, 3) := by decide +kernel
theorem own_d1_33 : decode method_2_code 33 = .ok (.areturn, 1) := by decide +kernel
theorem own_pn_com_example_circa_once_circaonce_messaging_ConsumeResultOfPinLaw : plainName "com/example/circa_once/circaonce/messaging/ConsumeResultOfPinLaw" = true := by first | (simp [plainName, overriddenIn]; done) | decide +kernel
theorem own_ef_pick (m : MethodId) (x0 : Int32) : entryFrame m #[(.int x0)] 2 = mkF m 0 #[.val (.int x0), .unset] [] := by first | rfl | (simp [entryFrame, mkF, argsToLocals, Value.category]; done)
def Q_pick (Z : State) (x0 : Int32) (h0 : Heap) (n0 : Nat) (v : Option Value) (h : Heap) (L : List Loc) : Prop := Fr n0 L ∧ h = h0 ∧ ∃ (r : Addr), v = some (.ref r) ∧ Exa Z h r "com/example/circa_once/circaonce/messaging/ConsumeResult$Kind"
set_option maxRecDepth 65536 in
set_option maxHeartbeats 40000000 in
theorem pick (l : Launch) (Z : State) (a0 : Array Value) (hw : ∀ d ∈ tables_1, d.before a0 Z = true) (ws : List Jvm.Cond) (x0 : Int32) (h0 : Heap) (n0 : Nat) (O0 : Old Z n0 h0) (gw1 : Addr) (gw2 : Addr) (gw3 : Addr) (gw4 : Addr) (G : GG Z gw1 gw2 gw3 gw4) :
    MetFree l (⟨"com/example/circa_once/circaonce/messaging/ConsumeResultOfPinLaw", "pick", "(I)Lcom/example/circa_once/circaonce/messaging/ConsumeResult$Kind;"⟩ : MethodName) (head1 (Jvm.Cond.code (⟨"com/example/circa_once/circaonce/messaging/ConsumeResultOfPinLaw", "pick", "(I)Lcom/example/circa_once/circaonce/messaging/ConsumeResult$Kind;"⟩ : MethodName) method_2_code 2 (some (.object "com/example/circa_once/circaonce/messaging/ConsumeResult$Kind")) :: ws) ({ frames := 0, cells := 0, slots := 0, locals := 0 } : Room)) (fun as_ U_ => as_ = #[(.int x0)] ∧ Z.Warmed39 U_.vm ∧ U_.heap = h0) (fun _ _ _ _ _ => True) (fun _ U_ o_ U2_ => ∃ v_ L_, o_ = .returned v_ ∧ Q_pick Z x0 h0 n0 v_ U2_.heap L_ ∧ FrameEnd U_ o_ U2_ L_ ({ frames := 0, cells := 0, slots := 0, locals := 0 } : Room).cells ({ frames := 0, cells := 0, slots := 0, locals := 0 } : Room).slots) := by
  refine MetFree.of_bodySF (plainFor_of_name own_pn_com_example_circa_once_circaonce_messaging_ConsumeResultOfPinLaw) hisR ?_
  intro p e s m args below meth c s₁ Bd hml0 hP hK
  obtain ⟨rfl, hZ, hh⟩ := hP
  have hx := Bd.exec
  have hby := Bd.bytes
  have hml : c.maxLocals = 2 := hml0
  have hown : s.vm.findClass "com/example/circa_once/circaonce/messaging/ConsumeResultOfPinLaw" = some m.cls := findClass_of_methodNamed Bd.named
  have hnm := (name_of_methodNamed Bd.named Bd.method).1
  have hlk : meth.locks = false := Bd.notSynchronized
  have hret := Bd.returns
  have X0 : Stand p l e ({ frames := 0, cells := 0, slots := 0, locals := 0 } : Room) s m #[(.int x0)] below meth c s₁ [] 0 0 := Stand.of_body Bd
  have e0 : s₁.heap = h0 := by rw [← hh, Bd.state]; rfl
  have N0 := Fr.nil n0
  have z0 : Z.heap.size = n0 := O0.1
  have z1 : n0 ≤ h0.size := z0 ▸ O0.2.1
  show own_Goes p e below (s₁.setTop (entryFrame m #[(.int x0)] 2)) (own_PostN s (Q_pick Z x0 h0 n0) ({ frames := 0, cells := 0, slots := 0, locals := 0 } : Room).cells ({ frames := 0, cells := 0, slots := 0, locals := 0 } : Room).slots)
  refine own_cast (own_ef_pick m x0) ?_
  show own_Goes p e below (s₁.setTop (mkF m 0 #[.val (.int x0), .unset] [])) _
  obtain ⟨G0, G1, G2, G3, G4, G5, G6, G7⟩ := id G
  have ltG1 : gw1 < Z.heap.size := G1.lt
  have ltG3 : gw2 < Z.heap.size := G3.lt
  have ltG5 : gw3 < Z.heap.size := G5.lt
  have ltG7 : gw4 < Z.heap.size := G7.lt
  refine own_go (fun t_ k_ => XS.iloadN X0.here hx rfl (hb hby own_d1_0) rfl k_) ?_
  show own_Goes p e below (s₁.setTop (mkF m 1 #[.val (.int x0), .unset] [(.int x0)])) _
  refine own_go (fun t_ k_ => XS.iconst X0.here hx rfl (hb hby own_d1_1) k_) ?_
  show own_Goes p e below (s₁.setTop (mkF m 2 #[.val (.int x0), .unset] [(.int (3 : Int32)), (.int x0)])) _
  refine own_go (fun t_ k_ => XS.iand X0.here hx rfl (hb hby own_d1_2) rfl k_) ?_
  show own_Goes p e below (s₁.setTop (mkF m 3 #[.val (.int x0), .unset] [(.int (x0 &&& (3 : Int32)))])) _
  refine own_go (fun t_ k_ => XS.istoreN X0.here hx rfl (hb hby own_d1_3) rfl (l' := #[.val (.int x0), .val (.int (x0 &&& (3 : Int32)))]) rfl k_) ?_
  show own_Goes p e below (s₁.setTop (mkF m 4 #[.val (.int x0), .val (.int (x0 &&& (3 : Int32)))] [])) _
  refine own_go (fun t_ k_ => XS.iloadN X0.here hx rfl (hb hby own_d1_4) rfl k_) ?_
  show own_Goes p e below (s₁.setTop (mkF m 5 #[.val (.int x0), .val (.int (x0 &&& (3 : Int32)))] [(.int (x0 &&& (3 : Int32)))])) _
  by_cases hc1 : (x0 &&& (3 : Int32)) = (0 : Int32)
  · refine own_go (fun t_ k_ => XS.ifNo X0.here hx rfl (hb hby own_d1_5) rfl ((if0 _ _).trans (teq hc1).2) k_) ?_
    show own_Goes p e below (s₁.setTop (mkF m 8 #[.val (.int x0), .val (.int (x0 &&& (3 : Int32)))] [])) _
    have q2 := G0.ext O0.2
    obtain ⟨T3, X3, e3, st3⟩ := getS2 X0 hx hZ hown (host := "") (Or.inl (hw _ (List.mem_of_getElem? (i := 4) rfl))) Via.refl e0 q2 (g := (mkF m 8 #[.val (.int x0), .val (.int (x0 &&& (3 : Int32)))] [])) rfl (hb hby own_d1_8)
    refine own_go st3 ?_
    show own_Goes p e below (T3.setTop (mkF m 11 #[.val (.int x0), .val (.int (x0 &&& (3 : Int32)))] [(.ref gw1)])) _
    refine own_endN X3 (v := (some (.ref gw1))) (fun h => by rw [hret] at h; cases h) hlk (by decide) (by decide) ?_ (fun fs hr => retOut X3 hx hret rfl (Or.inr (Or.inr (Or.inr (Or.inr ⟨rfl, rfl, rfl⟩)))) (hb hby own_d1_11) hr)
    show Q_pick Z x0 h0 n0 _ T3.heap _
    rw [e3]
    have q4 := G1.ext O0.2
    exact ⟨N0, rfl, gw1, rfl, q4⟩
  · refine own_go (fun t_ k_ => XS.ifYes X0.here hx rfl (pc0 := 5) (pc' := 12) rfl (hb hby own_d1_5) rfl ((if0 _ _).trans (feq hc1).2) (by decide) (by decide) k_) ?_
    show own_Goes p e below (s₁.setTop (mkF m 12 #[.val (.int x0), .val (.int (x0 &&& (3 : Int32)))] [])) _
    refine own_go (fun t_ k_ => XS.iloadN X0.here hx rfl (hb hby own_d1_12) rfl k_) ?_
    show own_Goes p e below (s₁.setTop (mkF m 13 #[.val (.int x0), .val (.int (x0 &&& (3 : Int32)))] [(.int (x0 &&& (3 : Int32)))])) _
    refine own_go (fun t_ k_ => XS.iconst X0.here hx rfl (hb hby own_d1_13) k_) ?_
    show own_Goes p e below (s₁.setTop (mkF m 14 #[.val (.int x0), .val (.int (x0 &&& (3 : Int32)))] [(.int (1 : Int32)), (.int (x0 &&& (3 : Int32)))])) _
    by_cases hc5 : (x0 &&& (3 : Int32)) = (1 : Int32)
    · refine own_go (fun t_ k_ => XS.icmpNo X0.here hx rfl (hb hby own_d1_14) rfl (teq hc5).2 k_) ?_
      show own_Goes p e below (s₁.setTop (mkF m 17 #[.val (.int x0), .val (.int (x0 &&& (3 : Int32)))] [])) _
      have q6 := G2.ext O0.2
      obtain ⟨T7, X7, e7, st7⟩ := getS2 X0 hx hZ hown (host := "") (Or.inl (hw _ (List.mem_of_getElem? (i := 44) rfl))) Via.refl e0 q6 (g := (mkF m 17 #[.val (.int x0), .val (.int (x0 &&& (3 : Int32)))] [])) rfl (hb hby own_d1_17)
      refine own_go st7 ?_
      show own_Goes p e below (T7.setTop (mkF m 20 #[.val (.int x0), .val (.int (x0 &&& (3 : Int32)))] [(.ref gw2)])) _
      refine own_endN X7 (v := (some (.ref gw2))) (fun h => by rw [hret] at h; cases h) hlk (by decide) (by decide) ?_ (fun fs hr => retOut X7 hx hret rfl (Or.inr (Or.inr (Or.inr (Or.inr ⟨rfl, rfl, rfl⟩)))) (hb hby own_d1_20) hr)
      show Q_pick Z x0 h0 n0 _ T7.heap _
      rw [e7]
      have q8 := G3.ext O0.2
      exact ⟨N0, rfl, gw2, rfl, q8⟩
    · refine own_go (fun t_ k_ => XS.icmpYes X0.here hx rfl (pc0 := 14) (pc' := 21) rfl (hb hby own_d1_14) rfl (feq hc5).2 (by decide) (by decide) k_) ?_
      show own_Goes p e below (s₁.setTop (mkF m 21 #[.val (.int x0), .val (.int (x0 &&& (3 : Int32)))] [])) _
      refine own_go (fun t_ k_ => XS.iloadN X0.here hx rfl (hb hby own_d1_21) rfl k_) ?_
      show own_Goes p e below (s₁.setTop (mkF m 22 #[.val (.int x0), .val (.int (x0 &&& (3 : Int32)))] [(.int (x0 &&& (3 : Int32)))])) _
      refine own_go (fun t_ k_ => XS.iconst X0.here hx rfl (hb hby own_d1_22) k_) ?_
      show own_Goes p e below (s₁.setTop (mkF m 23 #[.val (.int x0), .val (.int (x0 &&& (3 : Int32)))] [(.int (2 : Int32)), (.int (x0 &&& (3 : Int32)))])) _
      by_cases hc9 : (x0 &&& (3 : Int32)) = (2 : Int32)
      · refine own_go (fun t_ k_ => XS.icmpNo X0.here hx rfl (hb hby own_d1_23) rfl (teq hc9).2 k_) ?_
        show own_Goes p e below (s₁.setTop (mkF m 26 #[.val (.int x0), .val (.int (x0 &&& (3 : Int32)))] [])) _
        have q10 := G4.ext O0.2
        obtain ⟨T11, X11, e11, st11⟩ := getS2 X0 hx hZ hown (host := "") (Or.inl (hw _ (List.mem_of_getElem? (i := 42) rfl))) Via.refl e0 q10 (g := (mkF m 26 #[.val (.int x0), .val (.int (x0 &&& (3 : Int32)))] [])) rfl (hb hby own_d1_26)
        refine own_go st11 ?_
        show own_Goes p e below (T11.setTop (mkF m 29 #[.val (.int x0), .val (.int (x0 &&& (3 : Int32)))] [(.ref gw3)])) _
        refine own_endN X11 (v := (some (.ref gw3))) (fun h => by rw [hret] at h; cases h) hlk (by decide) (by decide) ?_ (fun fs hr => retOut X11 hx hret rfl (Or.inr (Or.inr (Or.inr (Or.inr ⟨rfl, rfl, rfl⟩)))) (hb hby own_d1_29) hr)
        show Q_pick Z x0 h0 n0 _ T11.heap _
        rw [e11]
        have q12 := G5.ext O0.2
        exact ⟨N0, rfl, gw3, rfl, q12⟩
      · refine own_go (fun t_ k_ => XS.icmpYes X0.here hx rfl (pc0 := 23) (pc' := 30) rfl (hb hby own_d1_23) rfl (feq hc9).2 (by decide) (by decide) k_) ?_
        show own_Goes p e below (s₁.setTop (mkF m 30 #[.val (.int x0), .val (.int (x0 &&& (3 : Int32)))] [])) _
        have q13 := G6.ext O0.2
        obtain ⟨T14, X14, e14, st14⟩ := getS2 X0 hx hZ hown (host := "") (Or.inl (hw _ (List.mem_of_getElem? (i := 7) rfl))) Via.refl e0 q13 (g := (mkF m 30 #[.val (.int x0), .val (.int (x0 &&& (3 : Int32)))] [])) rfl (hb hby own_d1_30)
        refine own_go st14 ?_
        show own_Goes p e below (T14.setTop (mkF m 33 #[.val (.int x0), .val (.int (x0 &&& (3 : Int32)))] [(.ref gw4)])) _
        refine own_endN X14 (v := (some (.ref gw4))) (fun h => by rw [hret] at h; cases h) hlk (by decide) (by decide) ?_ (fun fs hr => retOut X14 hx hret rfl (Or.inr (Or.inr (Or.inr (Or.inr ⟨rfl, rfl, rfl⟩)))) (hb hby own_d1_33) hr)
        show Q_pick Z x0 h0 n0 _ T14.heap _
        rw [e14]
        have q15 := G7.ext O0.2
        exact ⟨N0, rfl, gw4, rfl, q15⟩
theorem own_pd_4 : parseMethodDescriptor "(I)Lcom/example/circa_once/circaonce/messaging/ConsumeResult$Kind;" = some ⟨[.int], some (.object "com/example/circa_once/circaonce/messaging/ConsumeResult$Kind")⟩ := by decide +kernel
abbrev own_m5 : MethodName := ⟨"com/example/circa_once/circaonce/messaging/ConsumeResultOfPinLaw", "pick", "(I)Lcom/example/circa_once/circaonce/messaging/ConsumeResult$Kind;"⟩
theorem own_pd_6 : parseMethodDescriptor "(Lcom/example/circa_once/circaonce/messaging/ConsumeResult$Kind;)Lcom/example/circa_once/circaonce/messaging/ConsumeResult;" = some ⟨[(.object "com/example/circa_once/circaonce/messaging/ConsumeResult$Kind")], some (.object "com/example/circa_once/circaonce/messaging/ConsumeResult")⟩ := by decide +kernel
abbrev own_m7 : MethodName := ⟨"com/example/circa_once/circaonce/messaging/ConsumeResult", "of", "(Lcom/example/circa_once/circaonce/messaging/ConsumeResult$Kind;)Lcom/example/circa_once/circaonce/messaging/ConsumeResult;"⟩
theorem own_pd_8 : parseMethodDescriptor "()Lcom/example/circa_once/circaonce/messaging/ConsumeResult$Kind;" = some ⟨[], some (.object "com/example/circa_once/circaonce/messaging/ConsumeResult$Kind")⟩ := by decide +kernel
abbrev own_m9 : MethodName := ⟨"com/example/circa_once/circaonce/messaging/ConsumeResult", "kind", "()Lcom/example/circa_once/circaonce/messaging/ConsumeResult$Kind;"⟩
theorem own_ef_rm0 (m : MethodId) (x0 : Int32) (x1 : Int32) : entryFrame m #[(.int x0), (.int x1)] maxLocals = mkF m 0 #[.val (.int x0), .val (.int x1), .unset, .unset, .unset, .unset] [] := by first | rfl | (simp [entryFrame, mkF, argsToLocals, Value.category, maxLocals]; done)
def Q_rm0 (Z : State) (x0 : Int32) (x1 : Int32) (h0 : Heap) (n0 : Nat) (v : Option Value) (h : Heap) (L : List Loc) : Prop := Fr n0 L ∧ True ∧ v = some (.int (1 : Int32))
set_option maxRecDepth 65536 in
set_option maxHeartbeats 40000000 in
theorem rm0 (l : Launch) (Z : State) (a0 : Array Value) (hw : ∀ d ∈ tables_1, d.before a0 Z = true) (ws : List Jvm.Cond) (x0 : Int32) (x1 : Int32) (h0 : Heap) (n0 : Nat) (O0 : Old Z n0 h0) (gw1 : Addr) (gw2 : Addr) (gw3 : Addr) (gw4 : Addr) (G : GG Z gw1 gw2 gw3 gw4) :
    MetFree l x (head1 (Jvm.Cond.code x code maxLocals ret :: ws) room_1) (fun as_ U_ => as_ = #[(.int x0), (.int x1)] ∧ Z.Warmed39 U_.vm ∧ U_.heap = h0) (fun _ _ _ _ _ => True) (fun _ U_ o_ U2_ => ∃ v_ L_, o_ = .returned v_ ∧ Q_rm0 Z x0 x1 h0 n0 v_ U2_.heap L_ ∧ ReturnedEndW U_ o_ U2_ L_ room_1.cells room_1.slots) := by
  refine MetFree.of_bodySF (plainFor_of_name own_pn_com_example_circa_once_circaonce_messaging_ConsumeResultOfPinLaw) hisR ?_
  intro p e s m args below meth c s₁ Bd hml0 hP hK
  obtain ⟨rfl, hZ, hh⟩ := hP
  have hx := Bd.exec
  have hby := Bd.bytes
  have hml : c.maxLocals = 6 := hml0
  have hown : s.vm.findClass "com/example/circa_once/circaonce/messaging/ConsumeResultOfPinLaw" = some m.cls := findClass_of_methodNamed Bd.named
  have hnm := (name_of_methodNamed Bd.named Bd.method).1
  have hlk : meth.locks = false := Bd.notSynchronized
  have hret := Bd.returns
  have X0 : Stand p l e room_1 s m #[(.int x0), (.int x1)] below meth c s₁ [] 0 0 := Stand.of_body Bd
  have e0 : s₁.heap = h0 := by rw [← hh, Bd.state]; rfl
  have N0 := Fr.nil n0
  have z0 : Z.heap.size = n0 := O0.1
  have z1 : n0 ≤ h0.size := z0 ▸ O0.2.1
  have hS0 : s.Since s.vm 0 := (State.WarmedH.refl s).since 0
  have hk0 : 0 ≤ h0.size := Nat.zero_le _
  replace X0 : Stand p l e room_1 (s.setVm s.vm) m #[(.int x0), (.int x1)] below meth c s₁ [] 0 0 := X0
  show own_Goes p e below (s₁.setTop (entryFrame m #[(.int x0), (.int x1)] maxLocals)) (own_PostW s (Q_rm0 Z x0 x1 h0 n0) room_1.cells room_1.slots)
  refine own_cast (own_ef_rm0 m x0 x1) ?_
  show own_Goes p e below (s₁.setTop (mkF m 0 #[.val (.int x0), .val (.int x1), .unset, .unset, .unset, .unset] [])) _
  obtain ⟨G0, G1, G2, G3, G4, G5, G6, G7⟩ := id G
  have ltG1 : gw1 < Z.heap.size := G1.lt
  have ltG3 : gw2 < Z.heap.size := G3.lt
  have ltG5 : gw3 < Z.heap.size := G5.lt
  have ltG7 : gw4 < Z.heap.size := G7.lt
  refine own_go (fun t_ k_ => XS.iloadN X0.here hx rfl (hb hby at_0) rfl k_) ?_
  show own_Goes p e below (s₁.setTop (mkF m 1 #[.val (.int x0), .val (.int x1), .unset, .unset, .unset, .unset] [(.int x0)])) _
  obtain ⟨_, _, ⟨T1, L1, k1, n1⟩, -, X1, ⟨Lc1, hQ1, l1, y1, z1⟩, st1⟩ := Jvm.LawKit.callS X0 hx (y := own_m5) hown (mvT hZ (hw _ (List.mem_of_getElem? (i := 0) rfl))) (mvT hZ (hw _ (List.mem_of_getElem? (i := 1) rfl))) (mvT hZ (hw _ (List.mem_of_getElem? (i := 2) rfl))) (mvT hZ (hw _ (List.mem_of_getElem? (i := 3) rfl))) (by decide) (backOf (W := 0) (pick l Z a0 hw [] x0 h0 n0 O0 gw1 gw2 gw3 gw4 G) hZ (hw _ (List.mem_of_getElem? (i := 3) rfl)) (hw _ (List.mem_of_getElem? (i := 2) rfl)) (by decide) (by decide)) (g := (mkF m 1 #[.val (.int x0), .val (.int x1), .unset, .unset, .unset, .unset] [(.int x0)])) rfl (by rw [hml]; rfl) (argsL := [(.int x0)]) (rest := []) (lenOf own_pd_4 rfl) rfl (by show 2 * 0 + _ ≤ _; exact Nat.le_of_eq rfl) (hb hby at_1) (fun _ _ => ⟨rfl, e0, (by decide : 0 + 0 ≤ _), (by decide : 0 + 0 ≤ _)⟩)
  dsimp only [Pt.U, Pt.locs, Pt.cells, Pt.slots] at X1 l1 y1 z1 st1 hQ1
  subst l1 y1 z1
  obtain ⟨Nc1, e1, r_1, rfl, c1_0⟩ := hQ1
  rw [e1] at c1_0
  have N1 := Fr.app N0 Nc1
  have ltc1_0 : r_1 < h0.size := c1_0.lt
  refine own_go st1 ?_
  show own_Goes p e below (T1.setTop (mkF m 4 #[.val (.int x0), .val (.int x1), .unset, .unset, .unset, .unset] [(.ref r_1)])) _
  refine own_go (fun t_ k_ => XS.astoreN X1.here hx rfl (hb hby at_4) rfl rfl (l' := #[.val (.int x0), .val (.int x1), .val (.ref r_1), .unset, .unset, .unset]) rfl k_) ?_
  show own_Goes p e below (T1.setTop (mkF m 5 #[.val (.int x0), .val (.int x1), .val (.ref r_1), .unset, .unset, .unset] [])) _
  refine own_go (fun t_ k_ => XS.iloadN X1.here hx rfl (hb hby at_5) rfl k_) ?_
  show own_Goes p e below (T1.setTop (mkF m 6 #[.val (.int x0), .val (.int x1), .val (.ref r_1), .unset, .unset, .unset] [(.int x1)])) _
  obtain ⟨_, _, ⟨T2, L2, k2, n2⟩, -, X2, ⟨Lc2, hQ2, l2, y2, z2⟩, st2⟩ := Jvm.LawKit.callS X1 hx (y := own_m5) hown (mvT hZ (hw _ (List.mem_of_getElem? (i := 0) rfl))) (mvT hZ (hw _ (List.mem_of_getElem? (i := 1) rfl))) (mvT hZ (hw _ (List.mem_of_getElem? (i := 2) rfl))) (mvT hZ (hw _ (List.mem_of_getElem? (i := 3) rfl))) (by decide) (backOf (W := 0) (pick l Z a0 hw [] x1 h0 n0 O0 gw1 gw2 gw3 gw4 G) hZ (hw _ (List.mem_of_getElem? (i := 3) rfl)) (hw _ (List.mem_of_getElem? (i := 2) rfl)) (by decide) (by decide)) (g := (mkF m 6 #[.val (.int x0), .val (.int x1), .val (.ref r_1), .unset, .unset, .unset] [(.int x1)])) rfl (by rw [hml]; rfl) (argsL := [(.int x1)]) (rest := []) (lenOf own_pd_4 rfl) rfl (by show 2 * 0 + _ ≤ _; exact Nat.le_of_eq rfl) (hb hby at_6) (fun _ _ => ⟨rfl, e1, (by decide : 0 + 0 ≤ _), (by decide : 0 + 0 ≤ _)⟩)
  dsimp only [Pt.U, Pt.locs, Pt.cells, Pt.slots] at X2 l2 y2 z2 st2 hQ2
  subst l2 y2 z2
  obtain ⟨Nc2, e2, r_2, rfl, c2_0⟩ := hQ2
  rw [e2] at c2_0
  have N2 := Fr.app N1 Nc2
  have ltc2_0 : r_2 < h0.size := c2_0.lt
  refine own_go st2 ?_
  show own_Goes p e below (T2.setTop (mkF m 9 #[.val (.int x0), .val (.int x1), .val (.ref r_1), .unset, .unset, .unset] [(.ref r_2)])) _
  refine own_go (fun t_ k_ => XS.astoreN X2.here hx rfl (hb hby at_9) rfl rfl (l' := #[.val (.int x0), .val (.int x1), .val (.ref r_1), .val (.ref r_2), .unset, .unset]) rfl k_) ?_
  show own_Goes p e below (T2.setTop (mkF m 10 #[.val (.int x0), .val (.int x1), .val (.ref r_1), .val (.ref r_2), .unset, .unset] [])) _
  refine own_go (fun t_ k_ => XS.aloadN X2.here hx rfl (hb hby at_10) rfl rfl k_) ?_
  show own_Goes p e below (T2.setTop (mkF m 11 #[.val (.int x0), .val (.int x1), .val (.ref r_1), .val (.ref r_2), .unset, .unset] [(.ref r_1)])) _
  obtain ⟨_, _, ⟨T3, L3, k3, n3⟩, -, X3, hS3, gr3, ⟨Lc3, hQ3, l3, y3, z3⟩, st3⟩ := Jvm.RoadKit.callSS X2 hx (y := own_m7) hown (mvT hZ (hw _ (List.mem_of_getElem? (i := 9) rfl))) (mvT hZ (hw _ (List.mem_of_getElem? (i := 10) rfl))) (mvT hZ (hw _ (List.mem_of_getElem? (i := 11) rfl))) (mvT hZ (hw _ (List.mem_of_getElem? (i := 12) rfl))) (by decide) (backOfS (W := 0) (of l Z a0 hw [] r_1 h0 n0 O0 c1_0) hZ (hw _ (List.mem_of_getElem? (i := 12) rfl)) (hw _ (List.mem_of_getElem? (i := 11) rfl)) (by decide) (by decide)) (g := (mkF m 11 #[.val (.int x0), .val (.int x1), .val (.ref r_1), .val (.ref r_2), .unset, .unset] [(.ref r_1)])) rfl (by rw [hml]; rfl) (argsL := [(.ref r_1)]) (rest := []) (lenOf own_pd_6 rfl) rfl (by show 2 * 0 + _ ≤ _; exact Nat.le_of_eq rfl) (hb hby at_11) (fun _ _ => ⟨rfl, e2, (by decide : 0 + 3 ≤ _), (by decide : 0 + 21 ≤ _)⟩)
  dsimp only [Pt.U, Pt.locs, Pt.cells, Pt.slots] at X3 l3 y3 z3 st3 hQ3 hS3 gr3
  subst l3 y3 z3
  obtain ⟨h3, e3⟩ : ∃ z, T3.heap = z := ⟨_, rfl⟩
  rw [e3] at hQ3 hS3 gr3
  obtain ⟨Nc3, Kc3, r_3, rfl, c3_0, c3_1, c3_2⟩ := hQ3
  obtain ⟨X3, hS3, hZ3, hown3⟩ := rebS (own := "com/example/circa_once/circaonce/messaging/ConsumeResultOfPinLaw") hS0 (show _ ≤ T2.heap.size by rw [e2]; exact hk0) X3 hS3 gr3 hZ hown
  have hk3 : h3.size ≤ h3.size := Nat.le_refl _
  have N3 := Fr.app N2 Nc3
  have O4 := O0.keep Kc3 all0
  have sz5 : h0.size ≤ h3.size := Kc3.1
  have ltc3_0 : r_3 < h3.size := c3_0.lt
  refine own_goS st3 ?_
  show own_Goes p e below (T3.setTop (mkF m 14 #[.val (.int x0), .val (.int x1), .val (.ref r_1), .val (.ref r_2), .unset, .unset] [(.ref r_3)])) _
  refine own_go (fun t_ k_ => XS.astore X3.here hx rfl (hb hby at_14) rfl rfl (l' := #[.val (.int x0), .val (.int x1), .val (.ref r_1), .val (.ref r_2), .val (.ref r_3), .unset]) rfl k_) ?_
  show own_Goes p e below (T3.setTop (mkF m 16 #[.val (.int x0), .val (.int x1), .val (.ref r_1), .val (.ref r_2), .val (.ref r_3), .unset] [])) _
  refine own_go (fun t_ k_ => XS.aloadN X3.here hx rfl (hb hby at_16) rfl rfl k_) ?_
  show own_Goes p e below (T3.setTop (mkF m 17 #[.val (.int x0), .val (.int x1), .val (.ref r_1), .val (.ref r_2), .val (.ref r_3), .unset] [(.ref r_2)])) _
  have f6 := (c2_0.keep Kc3)
  obtain ⟨_, _, ⟨T7, L7, k7, n7⟩, -, X7, hS7, gr7, ⟨Lc7, hQ7, l7, y7, z7⟩, st7⟩ := Jvm.RoadKit.callSS X3 hx (y := own_m7) hown3 (mvT hZ3 (hw _ (List.mem_of_getElem? (i := 9) rfl))) (mvT hZ3 (hw _ (List.mem_of_getElem? (i := 10) rfl))) (mvT hZ3 (hw _ (List.mem_of_getElem? (i := 11) rfl))) (mvT hZ3 (hw _ (List.mem_of_getElem? (i := 12) rfl))) (by decide) (backOfS (W := 0) (of l Z a0 hw [] r_2 h3 n0 O4 f6) hZ3 (hw _ (List.mem_of_getElem? (i := 12) rfl)) (hw _ (List.mem_of_getElem? (i := 11) rfl)) (by decide) (by decide)) (g := (mkF m 17 #[.val (.int x0), .val (.int x1), .val (.ref r_1), .val (.ref r_2), .val (.ref r_3), .unset] [(.ref r_2)])) rfl (by rw [hml]; rfl) (argsL := [(.ref r_2)]) (rest := []) (lenOf own_pd_6 rfl) rfl (by show 2 * 0 + _ ≤ _; exact Nat.le_of_eq rfl) (hb hby at_17) (fun _ _ => ⟨rfl, e3, (by decide : 3 + 3 ≤ _), (by decide : 21 + 21 ≤ _)⟩)
  dsimp only [Pt.U, Pt.locs, Pt.cells, Pt.slots] at X7 l7 y7 z7 st7 hQ7 hS7 gr7
  subst l7 y7 z7
  obtain ⟨h7, e7⟩ : ∃ z, T7.heap = z := ⟨_, rfl⟩
  rw [e7] at hQ7 hS7 gr7
  obtain ⟨Nc7, Kc7, r_7, rfl, c7_0, c7_1, c7_2⟩ := hQ7
  obtain ⟨X7, hS7, hZ7, hown7⟩ := rebS (own := "com/example/circa_once/circaonce/messaging/ConsumeResultOfPinLaw") hS3 (show _ ≤ T3.heap.size by rw [e3]; exact hk3) X7 hS7 gr7 hZ3 hown3
  have hk7 : h7.size ≤ h7.size := Nat.le_refl _
  have N7 := Fr.app N3 Nc7
  have O8 := O4.keep Kc7 all0
  have sz9 : h3.size ≤ h7.size := Kc7.1
  have ltc7_0 : r_7 < h7.size := c7_0.lt
  refine own_goS st7 ?_
  show own_Goes p e below (T7.setTop (mkF m 20 #[.val (.int x0), .val (.int x1), .val (.ref r_1), .val (.ref r_2), .val (.ref r_3), .unset] [(.ref r_7)])) _
  refine own_go (fun t_ k_ => XS.astore X7.here hx rfl (hb hby at_20) rfl rfl (l' := #[.val (.int x0), .val (.int x1), .val (.ref r_1), .val (.ref r_2), .val (.ref r_3), .val (.ref r_7)]) rfl k_) ?_
  show own_Goes p e below (T7.setTop (mkF m 22 #[.val (.int x0), .val (.int x1), .val (.ref r_1), .val (.ref r_2), .val (.ref r_3), .val (.ref r_7)] [])) _
  refine own_go (fun t_ k_ => XS.aload X7.here hx rfl (hb hby at_22) rfl rfl k_) ?_
  show own_Goes p e below (T7.setTop (mkF m 24 #[.val (.int x0), .val (.int x1), .val (.ref r_1), .val (.ref r_2), .val (.ref r_3), .val (.ref r_7)] [(.ref r_3)])) _
  have f10 := (c3_1.keep Kc7 nin0)
  have f11 := (c3_0.keep Kc7)
  obtain ⟨cqiv12, kqiv12, qiv12a, qiv12b, qiv12c⟩ := isOf hZ7 e7 f11
  obtain ⟨_, _, ⟨T13, L13, k13, n13⟩, -, X13, ⟨Lc13, hQ13, l13, y13, z13⟩, st13⟩ := X7.virtualBack hx (y := own_m9) (z := own_m9) hown7 (mvT hZ7 (hw _ (List.mem_of_getElem? (i := 37) rfl))) (mvT hZ7 (hw _ (List.mem_of_getElem? (i := 38) rfl))) (notFace_of_selects (args := #[]) (mvT hZ7 (hw _ (List.mem_of_getElem? (i := 40) rfl)))) (mvT hZ7 (hw _ (List.mem_of_getElem? (i := 40) rfl))) (mvT hZ7 (hw _ (List.mem_of_getElem? (i := 39) rfl))) (by decide) (backOf (W := 0) (knd l Z a0 hw [] r_3 r_1 h7 n0 O8 f10) hZ7 (hw _ (List.mem_of_getElem? (i := 41) rfl)) (hw _ (List.mem_of_getElem? (i := 11) rfl)) (by decide) (by decide)) qiv12a qiv12c (g := (mkF m 24 #[.val (.int x0), .val (.int x1), .val (.ref r_1), .val (.ref r_2), .val (.ref r_3), .val (.ref r_7)] [(.ref r_3)])) rfl (by rw [hml]; rfl) (Steps.refl _) (argsL := []) (rest := []) (lenOf own_pd_8 rfl) rfl (by show 2 * 0 + _ ≤ _; exact Nat.le_of_eq rfl) (hb hby at_24) (fun _ _ => ⟨rfl, e7, (by decide : 6 + 0 ≤ _), (by decide : 42 + 0 ≤ _)⟩)
  dsimp only [Pt.U, Pt.locs, Pt.cells, Pt.slots] at X13 l13 y13 z13 st13 hQ13
  subst l13 y13 z13
  obtain ⟨Nc13, e13, rfl⟩ := hQ13
  have N13 := Fr.app N7 Nc13
  refine own_goS st13 ?_
  show own_Goes p e below (T13.setTop (mkF m 27 #[.val (.int x0), .val (.int x1), .val (.ref r_1), .val (.ref r_2), .val (.ref r_3), .val (.ref r_7)] [(.ref r_1)])) _
  refine own_go (fun t_ k_ => XS.aloadN X13.here hx rfl (hb hby at_27) rfl rfl k_) ?_
  show own_Goes p e below (T13.setTop (mkF m 28 #[.val (.int x0), .val (.int x1), .val (.ref r_1), .val (.ref r_2), .val (.ref r_3), .val (.ref r_7)] [(.ref r_1), (.ref r_1)])) _
  refine own_go (fun t_ k_ => Jvm.RoadKit.acmp (g := (mkF m 28 #[.val (.int x0), .val (.int x1), .val (.ref r_1), .val (.ref r_2), .val (.ref r_3), .val (.ref r_7)] [(.ref r_1), (.ref r_1)])) X13 hx rfl rfl rfl (pc0 := 28) (pc' := 31) (same := true) rfl (hb hby at_28) rfl (decide_eq_true rfl) (by decide) (by decide) k_) ?_
  show own_Goes p e below (T13.setTop (mkF m 31 #[.val (.int x0), .val (.int x1), .val (.ref r_1), .val (.ref r_2), .val (.ref r_3), .val (.ref r_7)] [])) _
  refine own_go (fun t_ k_ => XS.aload X13.here hx rfl (hb hby at_31) rfl rfl k_) ?_
  show own_Goes p e below (T13.setTop (mkF m 33 #[.val (.int x0), .val (.int x1), .val (.ref r_1), .val (.ref r_2), .val (.ref r_3), .val (.ref r_7)] [(.ref r_7)])) _
  obtain ⟨cqiv14, kqiv14, qiv14a, qiv14b, qiv14c⟩ := isOf hZ7 e13 c7_0
  obtain ⟨_, _, ⟨T15, L15, k15, n15⟩, -, X15, ⟨Lc15, hQ15, l15, y15, z15⟩, st15⟩ := X13.virtualBack hx (y := own_m9) (z := own_m9) hown7 (mvT hZ7 (hw _ (List.mem_of_getElem? (i := 37) rfl))) (mvT hZ7 (hw _ (List.mem_of_getElem? (i := 38) rfl))) (notFace_of_selects (args := #[]) (mvT hZ7 (hw _ (List.mem_of_getElem? (i := 40) rfl)))) (mvT hZ7 (hw _ (List.mem_of_getElem? (i := 40) rfl))) (mvT hZ7 (hw _ (List.mem_of_getElem? (i := 39) rfl))) (by decide) (backOf (W := 0) (knd l Z a0 hw [] r_7 r_2 h7 n0 O8 c7_1) hZ7 (hw _ (List.mem_of_getElem? (i := 41) rfl)) (hw _ (List.mem_of_getElem? (i := 11) rfl)) (by decide) (by decide)) qiv14a qiv14c (g := (mkF m 33 #[.val (.int x0), .val (.int x1), .val (.ref r_1), .val (.ref r_2), .val (.ref r_3), .val (.ref r_7)] [(.ref r_7)])) rfl (by rw [hml]; rfl) (Steps.refl _) (argsL := []) (rest := []) (lenOf own_pd_8 rfl) rfl (by show 2 * 0 + _ ≤ _; exact Nat.le_of_eq rfl) (hb hby at_33) (fun _ _ => ⟨rfl, e13, (by decide : 6 + 0 ≤ _), (by decide : 42 + 0 ≤ _)⟩)
  dsimp only [Pt.U, Pt.locs, Pt.cells, Pt.slots] at X15 l15 y15 z15 st15 hQ15
  subst l15 y15 z15
  obtain ⟨Nc15, e15, rfl⟩ := hQ15
  have N15 := Fr.app N13 Nc15
  refine own_goS st15 ?_
  show own_Goes p e below (T15.setTop (mkF m 36 #[.val (.int x0), .val (.int x1), .val (.ref r_1), .val (.ref r_2), .val (.ref r_3), .val (.ref r_7)] [(.ref r_2)])) _
  refine own_go (fun t_ k_ => XS.aloadN X15.here hx rfl (hb hby at_36) rfl rfl k_) ?_
  show own_Goes p e below (T15.setTop (mkF m 37 #[.val (.int x0), .val (.int x1), .val (.ref r_1), .val (.ref r_2), .val (.ref r_3), .val (.ref r_7)] [(.ref r_2), (.ref r_2)])) _
  refine own_go (fun t_ k_ => Jvm.RoadKit.acmp (g := (mkF m 37 #[.val (.int x0), .val (.int x1), .val (.ref r_1), .val (.ref r_2), .val (.ref r_3), .val (.ref r_7)] [(.ref r_2), (.ref r_2)])) X15 hx rfl rfl rfl (pc0 := 37) (pc' := 40) (same := true) rfl (hb hby at_37) rfl (decide_eq_true rfl) (by decide) (by decide) k_) ?_
  show own_Goes p e below (T15.setTop (mkF m 40 #[.val (.int x0), .val (.int x1), .val (.ref r_1), .val (.ref r_2), .val (.ref r_3), .val (.ref r_7)] [])) _
  refine own_go (fun t_ k_ => XS.iconst X15.here hx rfl (hb hby at_40) k_) ?_
  show own_Goes p e below (T15.setTop (mkF m 41 #[.val (.int x0), .val (.int x1), .val (.ref r_1), .val (.ref r_2), .val (.ref r_3), .val (.ref r_7)] [(.int (1 : Int32))])) _
  refine own_go (fun t_ k_ => XS.goto X15.here hx rfl (pc0 := 41) (pc' := 45) rfl (hb hby at_41) (by decide) (by decide) k_) ?_
  show own_Goes p e below (T15.setTop (mkF m 45 #[.val (.int x0), .val (.int x1), .val (.ref r_1), .val (.ref r_2), .val (.ref r_3), .val (.ref r_7)] [(.int (1 : Int32))])) _
  refine own_endW X15 hS7 (show _ ≤ T15.heap.size by rw [e15]; exact hk7) (v := (some (.int (1 : Int32)))) (fun h => by rw [hret] at h; cases h) hlk (by decide) (by decide) ?_ (fun fs hr => retOut X15 hx hret rfl (Or.inl ⟨rfl, Or.inr (Or.inl rfl), _, rfl⟩) (hb hby at_45) hr)
  show Q_rm0 Z x0 x1 h0 n0 _ T15.heap _
  rw [e15]
  exact ⟨N15, trivial, rfl⟩
set_option maxRecDepth 65536 in
set_option maxHeartbeats 40000000 in
theorem comes_1 {Post : Tables → Env → Array Value → State → Outcome → State → Prop} (hpost : ∀ tb e args s v u, (limb_1_1.after args s (.returned v) u = true ∧ limb_1_2.after args s (.returned v) u = true ∧ True) → ReturnedEndW s (.returned v) u (Jvm.fieldLocs frame_1_writes args s ++ Jvm.arrayLocs frame_1_arrays args s ++ Jvm.staticLocs frame_1_statics s) 16 1152 → Post tb e args s (.returned v) u) :
    ArmFor flags0 classFile x code maxLocals ret World_1 tables_1 room_1 Calls_1 rest_1 Pre_1 Post := by
  intro l hfl _ _ p e ha hc hk s m args below hf hA hF happ hP
  obtain ⟨hcalls, hrest, hpre⟩ := hP
  obtain ⟨-, -, -, hnamed, -, -, -, hat⟩ := (Spec.applies_iff hf).mp happ
  obtain ⟨hg, hn⟩ := and_e (Cond.before_iff.mp (show (Jvm.Cond.and given_1 narrow_1).before args s = true from hpre))
  obtain ⟨hg_1, hg_2⟩ := and_e hg
  obtain ⟨hg_3, hg_4⟩ := and_e hg_2
  obtain ⟨hn_1, hn_2⟩ := and_e hn
  obtain ⟨hn_3, hn_4⟩ := and_e hn_2
  obtain ⟨hn_5, hn_6⟩ := and_e hn_4
  obtain ⟨w0, w1, rfl⟩ : ∃ w0 w1 : Value, args = #[w0, w1] := by
    have hs : args.size = 2 := by simpa [Cond.value, given_1] using hg_1
    obtain ⟨L⟩ := args
    match L, hs with
    | [w0, w1], _ => exact ⟨w0, w1, rfl⟩
  have hw := fun d (hd : d ∈ tables_1) => atoms_spec (ws := Jvm.Cond.code x code maxLocals ret :: tables_1) hat d (List.mem_cons_of_mem _ hd)
  have hfit : Fit s := fun {y c} hc i hi => by
    obtain ⟨ha, rfl⟩ := Array.getElem?_eq_some_iff.mp hc
    have q := List.all_eq_true.mp ((Array.all_eq_true_iff_forall_mem.mp hF) _ (Array.getElem_mem ha)) i (List.mem_range.mpr hi)
    simpa [Array.getElem?_eq_getElem hi] using q
  obtain ⟨i0, ei0⟩ := is_v hg_3
  obtain rfl : w0 = (.int i0) := Option.some.inj ei0
  obtain ⟨i1, ei1⟩ := is_v hg_4
  obtain rfl : w1 = (.int i1) := Option.some.inj ei1
  obtain ⟨gw1, sgw1, xgw1⟩ := own_sta hn_1 (hw _ (List.mem_of_getElem? (i := 5) rfl)) (hw _ (List.mem_of_getElem? (i := 6) rfl))
  obtain ⟨gw2, sgw2, xgw2⟩ := own_sta hn_6 (hw _ (List.mem_of_getElem? (i := 5) rfl)) (hw _ (List.mem_of_getElem? (i := 45) rfl))
  obtain ⟨gw3, sgw3, xgw3⟩ := own_sta hn_5 (hw _ (List.mem_of_getElem? (i := 5) rfl)) (hw _ (List.mem_of_getElem? (i := 43) rfl))
  obtain ⟨gw4, sgw4, xgw4⟩ := own_sta hn_3 (hw _ (List.mem_of_getElem? (i := 5) rfl)) (hw _ (List.mem_of_getElem? (i := 8) rfl))
  obtain ⟨n, o, h1, h2, h3, _, L, rfl, ⟨N, -, rfl⟩, hq⟩ := rm0 l s _ hw tables_1 i0 i1 s.heap s.heap.size (Old.start s) gw1 gw2 gw3 gw4 ⟨sgw1, xgw1, sgw2, xgw2, sgw3, xgw3, sgw4, xgw4⟩ p e ha hc hk s m _ below hf ((Spec.applies_iff_loose hf).mp happ).1 ⟨rfl, State.Warmed39.refl s, rfl⟩ trivial
  refine ⟨n, _, h1, h2, h3, hpost _ _ _ _ _ _ ⟨Cond.after_iff.mpr rfl, Cond.after_iff.mpr (eq_i res_at (Term.int_eval (1)) rfl), trivial⟩ ⟨hq.1, hq.2.1, hq.2.2.1, (hq.2.2.2.sift fun y hy => Or.inr (N y hy)).mono (by decide) (by decide)⟩⟩
theorem main_1_1 : Claimed_1_1 := comes_1 fun _ _ _ _ _ _ h hF => ⟨h.1, hF⟩
theorem main_1_2 : Claimed_1_2 := comes_1 fun _ _ _ _ _ _ h hF => ⟨h.2.1, hF⟩
end Jvm.Pilot.@@N@@
namespace Jvm.Pilot.@@N@@
open Jvm Jvm.ClassFile Sem Op Lib Jvm.Free Jvm.Stand Jvm.Pilot.@@N@@.Jvm.D
/-! MADE BY PROGRAM (witnessworld.py) out of the Statement's table words and the real class files: 17 classes; the members and pool entries that the words name. The judged class is class 1, her method 2. -/
namespace start1
open Jvm.ClassFile
def u (s : String) : CpInfo := .utf8 (stringToUtf16 s)
/-- a pool by its gaps: so many unusable entries, then the entry; so many at the end -/
def gap : Nat → List CpInfo → List CpInfo
  | 0, r => r
  | n + 1, r => .unusable :: gap n r
def poolList (es : List (Nat × CpInfo)) (last : Nat) : List CpInfo := es.foldr (fun e r => gap e.1 (e.2 :: r)) (gap last [])
def pool (es : List (Nat × CpInfo)) (last : Nat) : Array CpInfo := ⟨poolList es last⟩
def fileOf (pool : Array CpInfo) (this : Nat) (attrs : Array Attribute := #[]) (ms : Array MethodInfo := #[]) (fl : Nat := 33) (sup : Nat := 0) (ifs : Array Nat := #[]) (fds : Array FieldInfo := #[]) : ClassFile where
  minorVersion := 0
  majorVersion := 65
  constantPool := pool
  accessFlags := fl
  thisClass := this
  superClass := sup
  interfaces := ifs
  fields := fds
  methods := ms
  attributes := attrs
def plain (name : String) (sup : Option ClassId) : Class where
  name := name
  kind := .ordinary
  loader := none
  accessFlags := 33
  super := sup
  interfaces := #[]
  cf := none
  fields := #[]
  methods := #[]
  instanceTypes := #[]
  staticTypes := #[]
  resolved := #[]
  callSites := []
  init := .initialized
  statics := none
  mirror := none

def pool0 : Array CpInfo := pool [(5, u "<init>"), (0, u "()V"), (1, .class_ 10), (1, u "java/lang/Object")] 113

def k0c0 : Code := { maxStack := 0, maxLocals := 1, code := object_method_1_code, exceptionTable := #[], attributes := #[] }
def k0m0 : Method := { name := "<init>", desc := "()V", sig := { parameters := [], returnType := none }, accessFlags := 1, code := some k0c0 }
/-- java/lang/Object -/
def k0 : Class := { plain "java/lang/Object" none with
  accessFlags := 33
  interfaces := #[]
  cf := some (fileOf pool0 8 #[] #[{ accessFlags := 1, nameIndex := 5, descriptorIndex := 6, attributes := #[] }] 33 0 #[] #[])
  fields := #[]
  methods := #[k0m0]
  instanceTypes := #[]
  staticTypes := #[]
  resolved := Array.replicate 124 none
  statics := none }

def pool1 : Array CpInfo := pool [(2, .class_ 4), (1, u "java/lang/Object"), (0, u "<init>"), (0, u "()V"), (0, .fieldref 8 9), (0, .class_ 10), (0, .nameAndType 11 12), (0, u "com/example/circa_once/circaonce/messaging/ConsumeResult$Kind"), (0, u "PROCESSED"), (0, u "Lcom/example/circa_once/circaonce/messaging/ConsumeResult$Kind;"), (0, .fieldref 8 14), (0, .nameAndType 15 12), (0, u "DUPLICATE"), (0, .fieldref 8 17), (0, .nameAndType 18 12), (0, u "IN_PROGRESS"), (0, .fieldref 8 20), (0, .nameAndType 21 12), (0, u "ID_REUSED"), (0, .methodref 23 24), (0, .class_ 25), (0, .nameAndType 26 27), (0, u "com/example/circa_once/circaonce/messaging/ConsumeResultOfPinLaw"), (0, u "pick"), (0, u "(I)Lcom/example/circa_once/circaonce/messaging/ConsumeResult$Kind;"), (0, .methodref 29 30), (0, .class_ 31), (0, .nameAndType 32 33), (0, u "com/example/circa_once/circaonce/messaging/ConsumeResult"), (0, u "of"), (0, u "(Lcom/example/circa_once/circaonce/messaging/ConsumeResult$Kind;)Lcom/example/circa_once/circaonce/messaging/ConsumeResult;"), (0, .methodref 29 35), (0, .nameAndType 36 37), (0, u "kind"), (0, u "()Lcom/example/circa_once/circaonce/messaging/ConsumeResult$Kind;"), (3, u "law"), (0, u "(II)Z")] 4

def k1m0 : Method := { name := "<init>", desc := "()V", sig := { parameters := [], returnType := none }, accessFlags := 1, code := none }
def k1c1 : Code := { maxStack := 2, maxLocals := 2, code := method_2_code, exceptionTable := #[], attributes := #[] }
def k1m1 : Method := { name := "pick", desc := "(I)Lcom/example/circa_once/circaonce/messaging/ConsumeResult$Kind;", sig := { parameters := [.int], returnType := some (.object "com/example/circa_once/circaonce/messaging/ConsumeResult$Kind") }, accessFlags := 10, code := some k1c1 }
def k1c2 : Code := { maxStack := 2, maxLocals := 6, code := code, exceptionTable := #[], attributes := #[] }
def k1m2 : Method := { name := "law", desc := "(II)Z", sig := { parameters := [.int, .int], returnType := some .boolean }, accessFlags := 9, code := some k1c2 }
/-- com/example/circa_once/circaonce/messaging/ConsumeResultOfPinLaw -/
def k1 : Class := { plain "com/example/circa_once/circaonce/messaging/ConsumeResultOfPinLaw" (some 0) with
  accessFlags := 49
  interfaces := #[]
  cf := some (fileOf pool1 23 #[] #[{ accessFlags := 1, nameIndex := 5, descriptorIndex := 6, attributes := #[] }, { accessFlags := 10, nameIndex := 26, descriptorIndex := 27, attributes := #[] }, { accessFlags := 9, nameIndex := 41, descriptorIndex := 42, attributes := #[] }] 49 2 #[] #[])
  fields := #[]
  methods := #[k1m0, k1m1, k1m2]
  instanceTypes := #[]
  staticTypes := #[]
  resolved := Array.replicate 47 none
  statics := none }

def pool2 : Array CpInfo := pool [(1, .class_ 2), (0, u "java/lang/constant/Constable"), (0, .class_ 4), (0, u "java/lang/Object")] 6

/-- java/lang/constant/Constable -/
def k2 : Class := { plain "java/lang/constant/Constable" (some 0) with
  accessFlags := 1537
  interfaces := #[]
  cf := some (fileOf pool2 1 #[] #[] 1537 3 #[] #[])
  fields := #[]
  methods := #[]
  instanceTypes := #[]
  staticTypes := #[]
  resolved := Array.replicate 11 none
  statics := none }

def pool3 : Array CpInfo := pool [(1, .class_ 2), (0, u "java/lang/Comparable"), (0, .class_ 4), (0, u "java/lang/Object")] 7

/-- java/lang/Comparable -/
def k3 : Class := { plain "java/lang/Comparable" (some 0) with
  accessFlags := 1537
  interfaces := #[]
  cf := some (fileOf pool3 1 #[] #[] 1537 3 #[] #[])
  fields := #[]
  methods := #[]
  instanceTypes := #[]
  staticTypes := #[]
  resolved := Array.replicate 12 none
  statics := none }

def pool4 : Array CpInfo := pool [(1, .class_ 2), (0, u "java/io/Serializable"), (0, .class_ 4), (0, u "java/lang/Object")] 2

/-- java/io/Serializable -/
def k4 : Class := { plain "java/io/Serializable" (some 0) with
  accessFlags := 1537
  interfaces := #[]
  cf := some (fileOf pool4 1 #[] #[] 1537 3 #[] #[])
  fields := #[]
  methods := #[]
  instanceTypes := #[]
  staticTypes := #[]
  resolved := Array.replicate 7 none
  statics := none }

def pool5 : Array CpInfo := pool [(2, .class_ 4), (1, u "java/lang/Enum"), (0, u "name"), (0, u "Ljava/lang/String;"), (2, u "ordinal"), (0, u "I"), (1, .class_ 14), (1, u "java/lang/Object"), (4, u "hash"), (86, .class_ 108), (1, u "java/lang/Enum$EnumDesc"), (2, .class_ 112), (0, u "java/lang/constant/Constable"), (0, .class_ 114), (0, u "java/lang/Comparable"), (0, .class_ 116), (0, u "java/io/Serializable")] 87

/-- java/lang/Enum -/
def k5 : Class := { plain "java/lang/Enum" (some 0) with
  accessFlags := 1057
  interfaces := #[2, 3, 4]
  cf := some (fileOf pool5 2 #[.nestMembers #[106]] #[] 1057 12 #[111, 113, 115] #[{ accessFlags := 18, nameIndex := 5, descriptorIndex := 6, attributes := #[] }, { accessFlags := 18, nameIndex := 9, descriptorIndex := 10, attributes := #[] }, { accessFlags := 2, nameIndex := 19, descriptorIndex := 10, attributes := #[] }])
  fields := #[{ name := "name", type := (.object "java/lang/String"), accessFlags := 18, slot := 0, constantValue := 0 }, { name := "ordinal", type := .int, accessFlags := 18, slot := 1, constantValue := 0 }, { name := "hash", type := .int, accessFlags := 2, slot := 2, constantValue := 0 }]
  methods := #[]
  instanceTypes := #[(.object "java/lang/String"), .int, .int]
  staticTypes := #[]
  resolved := Array.replicate 204 none
  statics := none }

def pool6 : Array CpInfo := pool [(1, .class_ 2), (0, u "com/example/circa_once/circaonce/messaging/ConsumeResult$Kind"), (2, u "PROCESSED"), (0, u "Lcom/example/circa_once/circaonce/messaging/ConsumeResult$Kind;"), (2, u "DUPLICATE"), (2, u "IN_PROGRESS"), (2, u "ID_REUSED"), (2, u "$VALUES"), (0, u "[Lcom/example/circa_once/circaonce/messaging/ConsumeResult$Kind;"), (6, .class_ 28), (1, u "java/lang/Enum"), (27, .class_ 57), (0, u "com/example/circa_once/circaonce/messaging/ConsumeResult")] 2

/-- com/example/circa_once/circaonce/messaging/ConsumeResult$Kind -/
def k6 : Class := { plain "com/example/circa_once/circaonce/messaging/ConsumeResult$Kind" (some 5) with
  accessFlags := 16433
  interfaces := #[]
  cf := some (fileOf pool6 1 #[.nestHost 56] #[] 16433 26 #[] #[{ accessFlags := 16409, nameIndex := 5, descriptorIndex := 6, attributes := #[] }, { accessFlags := 16409, nameIndex := 9, descriptorIndex := 6, attributes := #[] }, { accessFlags := 16409, nameIndex := 12, descriptorIndex := 6, attributes := #[] }, { accessFlags := 16409, nameIndex := 15, descriptorIndex := 6, attributes := #[] }, { accessFlags := 4122, nameIndex := 18, descriptorIndex := 19, attributes := #[] }])
  fields := #[{ name := "PROCESSED", type := (.object "com/example/circa_once/circaonce/messaging/ConsumeResult$Kind"), accessFlags := 16409, slot := 0, constantValue := 0 }, { name := "DUPLICATE", type := (.object "com/example/circa_once/circaonce/messaging/ConsumeResult$Kind"), accessFlags := 16409, slot := 1, constantValue := 0 }, { name := "IN_PROGRESS", type := (.object "com/example/circa_once/circaonce/messaging/ConsumeResult$Kind"), accessFlags := 16409, slot := 2, constantValue := 0 }, { name := "ID_REUSED", type := (.object "com/example/circa_once/circaonce/messaging/ConsumeResult$Kind"), accessFlags := 16409, slot := 3, constantValue := 0 }, { name := "$VALUES", type := (.array (.object "com/example/circa_once/circaonce/messaging/ConsumeResult$Kind")), accessFlags := 4122, slot := 4, constantValue := 0 }]
  methods := #[]
  instanceTypes := #[(.object "java/lang/String"), .int, .int]
  staticTypes := #[(.object "com/example/circa_once/circaonce/messaging/ConsumeResult$Kind"), (.object "com/example/circa_once/circaonce/messaging/ConsumeResult$Kind"), (.object "com/example/circa_once/circaonce/messaging/ConsumeResult$Kind"), (.object "com/example/circa_once/circaonce/messaging/ConsumeResult$Kind"), (.array (.object "com/example/circa_once/circaonce/messaging/ConsumeResult$Kind"))]
  resolved := Array.replicate 60 none
  statics := some 0 }

def pool7 : Array CpInfo := pool [(1, .methodref 2 3), (0, .class_ 4), (0, .nameAndType 5 6), (0, u "java/lang/Object"), (0, u "<init>"), (0, u "()V"), (0, .fieldref 8 9), (0, .class_ 10), (0, .nameAndType 11 12), (0, u "com/example/circa_once/circaonce/messaging/ConsumeResult"), (0, u "kind"), (0, u "Lcom/example/circa_once/circaonce/messaging/ConsumeResult$Kind;"), (0, .string 11), (0, .methodref 15 16), (0, .class_ 17), (0, .nameAndType 18 19), (0, u "java/util/Objects"), (0, u "requireNonNull"), (0, u "(Ljava/lang/Object;Ljava/lang/String;)Ljava/lang/Object;"), (0, .class_ 21), (0, u "com/example/circa_once/circaonce/messaging/ConsumeResult$Kind"), (0, .methodref 8 23), (0, .nameAndType 5 24), (0, u "(Lcom/example/circa_once/circaonce/messaging/ConsumeResult$Kind;)V"), (12, u "of"), (0, u "(Lcom/example/circa_once/circaonce/messaging/ConsumeResult$Kind;)Lcom/example/circa_once/circaonce/messaging/ConsumeResult;"), (0, u "()Lcom/example/circa_once/circaonce/messaging/ConsumeResult$Kind;")] 21

def k7c0 : Code := { maxStack := 2, maxLocals := 2, code := prog_7_method_1_code, exceptionTable := #[], attributes := #[] }
def k7m0 : Method := { name := "<init>", desc := "(Lcom/example/circa_once/circaonce/messaging/ConsumeResult$Kind;)V", sig := { parameters := [(.object "com/example/circa_once/circaonce/messaging/ConsumeResult$Kind")], returnType := none }, accessFlags := 2, code := some k7c0 }
def k7c1 : Code := { maxStack := 4, maxLocals := 1, code := prog_7_method_2_code, exceptionTable := #[], attributes := #[] }
def k7m1 : Method := { name := "of", desc := "(Lcom/example/circa_once/circaonce/messaging/ConsumeResult$Kind;)Lcom/example/circa_once/circaonce/messaging/ConsumeResult;", sig := { parameters := [(.object "com/example/circa_once/circaonce/messaging/ConsumeResult$Kind")], returnType := some (.object "com/example/circa_once/circaonce/messaging/ConsumeResult") }, accessFlags := 9, code := some k7c1 }
def k7c2 : Code := { maxStack := 1, maxLocals := 1, code := prog_7_method_3_code, exceptionTable := #[], attributes := #[] }
def k7m2 : Method := { name := "kind", desc := "()Lcom/example/circa_once/circaonce/messaging/ConsumeResult$Kind;", sig := { parameters := [], returnType := some (.object "com/example/circa_once/circaonce/messaging/ConsumeResult$Kind") }, accessFlags := 1, code := some k7c2 }
/-- com/example/circa_once/circaonce/messaging/ConsumeResult -/
def k7 : Class := { plain "com/example/circa_once/circaonce/messaging/ConsumeResult" (some 0) with
  accessFlags := 49
  interfaces := #[]
  cf := some (fileOf pool7 8 #[.nestMembers #[20]] #[{ accessFlags := 2, nameIndex := 5, descriptorIndex := 24, attributes := #[] }, { accessFlags := 9, nameIndex := 37, descriptorIndex := 38, attributes := #[] }, { accessFlags := 1, nameIndex := 11, descriptorIndex := 39, attributes := #[] }] 49 2 #[] #[{ accessFlags := 18, nameIndex := 11, descriptorIndex := 12, attributes := #[] }])
  fields := #[{ name := "kind", type := (.object "com/example/circa_once/circaonce/messaging/ConsumeResult$Kind"), accessFlags := 18, slot := 0, constantValue := 0 }]
  methods := #[k7m0, k7m1, k7m2]
  instanceTypes := #[(.object "com/example/circa_once/circaonce/messaging/ConsumeResult$Kind")]
  staticTypes := #[]
  resolved := Array.replicate 61 none
  statics := none }

def pool8 : Array CpInfo := pool [(2, .class_ 4), (1, u "java/lang/CharSequence"), (42, .class_ 48), (0, u "java/lang/CharSequence$1CodePointIterator"), (10, .class_ 60), (0, u "java/lang/CharSequence$1CharIterator"), (5, .class_ 67), (0, u "java/lang/Object")] 63

/-- java/lang/CharSequence -/
def k8 : Class := { plain "java/lang/CharSequence" (some 0) with
  accessFlags := 1537
  interfaces := #[]
  cf := some (fileOf pool8 2 #[.nestMembers #[47, 59]] #[] 1537 66 #[] #[])
  fields := #[]
  methods := #[]
  instanceTypes := #[]
  staticTypes := #[]
  resolved := Array.replicate 131 none
  statics := none }

def pool9 : Array CpInfo := pool [(1, .class_ 2), (0, u "java/lang/constant/ConstantDesc"), (0, .class_ 4), (0, u "java/lang/Object")] 32

/-- java/lang/constant/ConstantDesc -/
def k9 : Class := { plain "java/lang/constant/ConstantDesc" (some 0) with
  accessFlags := 1537
  interfaces := #[]
  cf := some (fileOf pool9 1 #[] #[] 1537 3 #[] #[])
  fields := #[]
  methods := #[]
  instanceTypes := #[]
  staticTypes := #[]
  resolved := Array.replicate 37 none
  statics := none }

def pool10 : Array CpInfo := pool [(2, .class_ 4), (1, u "java/lang/Object"), (0, u "<init>"), (0, u "()V"), (3, .class_ 12), (1, u "java/lang/String"), (0, u "value"), (0, u "[B"), (2, u "coder"), (0, u "B"), (2, u "hash"), (0, u "I"), (2, u "hashIsZero"), (0, u "Z"), (13, u "COMPACT_STRINGS"), (534, .class_ 576), (0, u "java/lang/CharSequence"), (22, u "CASE_INSENSITIVE_ORDER"), (0, u "Ljava/util/Comparator;"), (500, u "serialPersistentFields"), (0, u "[Ljava/io/ObjectStreamField;"), (0, .class_ 1104), (0, u "java/lang/String$CaseInsensitiveComparator"), (1, .class_ 1107), (0, u "java/io/Serializable"), (0, .class_ 1109), (0, u "java/lang/Comparable"), (0, .class_ 1111), (0, u "java/lang/constant/Constable"), (0, .class_ 1113), (0, u "java/lang/constant/ConstantDesc"), (2, u "serialVersionUID"), (0, u "J"), (3, u "REPL"), (0, u "C"), (2, u "LATIN1"), (1, u "UTF16")] 323

def k10m0 : Method := { name := "<init>", desc := "()V", sig := { parameters := [], returnType := none }, accessFlags := 1, code := none }
/-- java/lang/String -/
def k10 : Class := { plain "java/lang/String" (some 0) with
  accessFlags := 49
  interfaces := #[4, 3, 8, 2, 9]
  cf := some (fileOf pool10 10 #[.nestMembers #[1103]] #[{ accessFlags := 1, nameIndex := 5, descriptorIndex := 6, attributes := #[] }] 49 2 #[1106, 1108, 575, 1110, 1112] #[{ accessFlags := 18, nameIndex := 13, descriptorIndex := 14, attributes := #[] }, { accessFlags := 18, nameIndex := 17, descriptorIndex := 18, attributes := #[] }, { accessFlags := 2, nameIndex := 21, descriptorIndex := 22, attributes := #[] }, { accessFlags := 2, nameIndex := 25, descriptorIndex := 26, attributes := #[] }, { accessFlags := 26, nameIndex := 1116, descriptorIndex := 1117, attributes := #[] }, { accessFlags := 24, nameIndex := 40, descriptorIndex := 26, attributes := #[] }, { accessFlags := 26, nameIndex := 1101, descriptorIndex := 1102, attributes := #[] }, { accessFlags := 26, nameIndex := 1121, descriptorIndex := 1122, attributes := #[] }, { accessFlags := 25, nameIndex := 599, descriptorIndex := 600, attributes := #[] }, { accessFlags := 24, nameIndex := 1125, descriptorIndex := 18, attributes := #[] }, { accessFlags := 24, nameIndex := 1127, descriptorIndex := 18, attributes := #[] }])
  fields := #[{ name := "value", type := (.array .byte), accessFlags := 18, slot := 0, constantValue := 0 }, { name := "coder", type := .byte, accessFlags := 18, slot := 1, constantValue := 0 }, { name := "hash", type := .int, accessFlags := 2, slot := 2, constantValue := 0 }, { name := "hashIsZero", type := .boolean, accessFlags := 2, slot := 3, constantValue := 0 }, { name := "serialVersionUID", type := .long, accessFlags := 26, slot := 0, constantValue := 0 }, { name := "COMPACT_STRINGS", type := .boolean, accessFlags := 24, slot := 1, constantValue := 0 }, { name := "serialPersistentFields", type := (.array (.object "java/io/ObjectStreamField")), accessFlags := 26, slot := 2, constantValue := 0 }, { name := "REPL", type := .char, accessFlags := 26, slot := 3, constantValue := 0 }, { name := "CASE_INSENSITIVE_ORDER", type := (.object "java/util/Comparator"), accessFlags := 25, slot := 4, constantValue := 0 }, { name := "LATIN1", type := .byte, accessFlags := 24, slot := 5, constantValue := 0 }, { name := "UTF16", type := .byte, accessFlags := 24, slot := 6, constantValue := 0 }]
  methods := #[k10m0]
  instanceTypes := #[(.array .byte), .byte, .int, .boolean]
  staticTypes := #[.long, .boolean, (.array (.object "java/io/ObjectStreamField")), .char, (.object "java/util/Comparator"), .byte, .byte]
  resolved := Array.replicate 1451 none
  statics := none }

def pool11 : Array CpInfo := pool [(2, .class_ 4), (1, u "java/lang/Object"), (0, u "<init>"), (0, u "()V"), (35, .class_ 44), (1, u "java/util/Objects"), (0, u "requireNonNull"), (48, u "(Ljava/lang/Object;Ljava/lang/String;)Ljava/lang/Object;")] 89

def k11m0 : Method := { name := "<init>", desc := "()V", sig := { parameters := [], returnType := none }, accessFlags := 2, code := none }
def k11c1 : Code := { maxStack := 3, maxLocals := 2, code := jdk_31_method_11_code, exceptionTable := #[], attributes := #[] }
def k11m1 : Method := { name := "requireNonNull", desc := "(Ljava/lang/Object;Ljava/lang/String;)Ljava/lang/Object;", sig := { parameters := [(.object "java/lang/Object"), (.object "java/lang/String")], returnType := some (.object "java/lang/Object") }, accessFlags := 9, code := some k11c1 }
/-- java/util/Objects -/
def k11 : Class := { plain "java/util/Objects" (some 0) with
  accessFlags := 49
  interfaces := #[]
  cf := some (fileOf pool11 42 #[] #[{ accessFlags := 2, nameIndex := 5, descriptorIndex := 6, attributes := #[] }, { accessFlags := 9, nameIndex := 45, descriptorIndex := 94, attributes := #[] }] 49 2 #[] #[])
  fields := #[]
  methods := #[k11m0, k11m1]
  instanceTypes := #[]
  staticTypes := #[]
  resolved := Array.replicate 184 none
  statics := none }

def pool12 : Array CpInfo := pool [(1, u "java/lang/Cloneable"), (0, .class_ 1), (0, u "java/lang/Object"), (0, .class_ 3)] 3

/-- java/lang/Cloneable -/
def k12 : Class := { plain "java/lang/Cloneable" (some 0) with
  accessFlags := 1537
  interfaces := #[]
  cf := some (fileOf pool12 2 #[] #[] 1537 4 #[] #[])
  fields := #[]
  methods := #[]
  instanceTypes := #[]
  staticTypes := #[]
  resolved := Array.replicate 8 none
  statics := none }

/-- the primitive byte -/
def k13 : Class := { plain "byte" none with kind := .primitive 'B', accessFlags := 0x411 }
/-- [B -/
def k14 : Class := { plain "[B" (some 0) with kind := .array 13 .byte, interfaces := #[12, 4], accessFlags := 1041 }

/-- the primitive int -/
def k15 : Class := { plain "int" none with kind := .primitive 'I', accessFlags := 0x411 }
/-- [I -/
def k16 : Class := { plain "[I" (some 0) with kind := .array 15 .int, interfaces := #[12, 4], accessFlags := 1041 }

def heap : Heap := #[{ cls := 6, slots := #[.ref 1, .ref 2, .ref 3, .ref 4, .null], vm := .statics 6 },
  { cls := 6, slots := #[.null, .int 0, .int 0], vm := .none },
  { cls := 6, slots := #[.null, .int 1, .int 0], vm := .none },
  { cls := 6, slots := #[.null, .int 2, .int 0], vm := .none },
  { cls := 6, slots := #[.null, .int 3, .int 0], vm := .none }]
def classes : Array Class := #[k0, k1, k2, k3, k4, k5, k6, k7, k8, k9, k10, k11, k12, k13, k14, k15, k16]
def interned : List (Array UInt16 × Addr) := []
def slotsUsed : Nat := 17
def theMethod : MethodId := ⟨1, 2⟩
def args0 : Array Value := #[.int 5, .int 2]
def aboutOver (below : List Frame) : State where
  vm := { classes := classes, interned := interned.toArray }
  heap := heap
  slotsUsed := slotsUsed
  threads := #[{ frames := .invoking theMethod args0 :: below }]
def below0 : List Frame := [.native { method := ⟨0, 0⟩, args := #[] }]
def about1 : State := aboutOver below0
def p0 : Program := .bare "" "" ""
def e0 : Env := launch0.env 0 0 0
theorem w_frames : about1.frames = Frame.invoking theMethod args0 :: below0 := rfl
set_option maxRecDepth 65536 in
theorem w_args : argsFit about1.vm theMethod args0 = true := by decide +kernel
set_option maxRecDepth 65536 in
theorem w_heap : heapFits about1 = true := by decide +kernel
set_option maxRecDepth 65536 in
theorem w_runnable : about1.curStatus? = some .runnable := by decide +kernel
set_option maxRecDepth 65536 in
theorem w_alone : about1.alone = true := by decide +kernel
set_option maxRecDepth 65536 in
theorem w_named : about1.methodNamed? x = some theMethod := by decide +kernel
set_option maxRecDepth 65536 in
theorem w_hears : about1.hears theMethod below0 = true := by decide +kernel
set_option maxRecDepth 65536 in
theorem w_ripe : about1.ripe theMethod args0 below0 = true := by decide +kernel
theorem w_running : about1.status = .running := rfl
set_option maxRecDepth 65536 in
theorem w_room : about1.hasRoom e0.platform room_1 = true :=
  launch0.hasRoom_least _ room_1 (by decide +kernel) (by decide +kernel) (by decide +kernel) (by decide +kernel) (by decide +kernel) (by decide +kernel)
theorem allAtoms_all (ts : List Jvm.Cond) (a : Array Jvm.Value) (st : Jvm.State) : (allAtoms ts).before a st = ts.all (fun c => c.before a st) := by
  induction ts with
  | nil => rfl
  | cons c t ih =>
    show (Jvm.Cond.and c (allAtoms t)).before a st = _
    rw [Jvm.Cond.before_and, ih, List.all_cons]
def words1 : List Jvm.Cond := Jvm.Cond.code x code maxLocals ret :: tables_1
/-- a 'code' word, met by the world's own term for the bytes: nothing is compared byte by byte -/
theorem code_word {y : MethodName} {bytes : ByteArray} {mx : Nat} {rt : Option FieldType} {a : Array Value} {s : State} {m : MethodId} {meth : Method} {c : Code} (h1 : s.methodNamed? y = some m) (h2 : s.vm.method? m = some meth) (h3 : meth.code = some c) (h4 : c.code = bytes)
    (h5 : (c.maxLocals == mx && c.exceptionTable.isEmpty && decide (c.maxStack ≤ mostOperands) && decide (meth.sig.returnType = rt) && !meth.locks && decide (parseMethodDescriptor y.desc = some meth.sig)) = true) : (Jvm.Cond.code y bytes mx rt).before a s = true := by
  simp only [Bool.and_eq_true, beq_iff_eq, Bool.not_eq_true', decide_eq_true_eq] at h5
  obtain ⟨⟨⟨⟨⟨g1, g2⟩, g3⟩, g4⟩, g5⟩, g6⟩ := h5
  simp [Cond.before, Cond.holds, Cond.value, h1, h2, h3, h4, g1, g2, g3, g4, g5, g6]
def isCode : Jvm.Cond → Bool
  | .code _ _ _ _ => true
  | _ => false
theorem all_split {L : List Jvm.Cond} {P : Jvm.Cond → Bool} (h1 : L.all (fun c => isCode c || P c) = true) (h2 : ∀ c ∈ L.filter isCode, P c = true) : L.all P = true := by
  refine List.all_eq_true.mpr fun c hc => ?_
  have h := List.all_eq_true.mp h1 c hc
  rcases Bool.eq_false_or_eq_true (isCode c) with hi | hi
  · exact h2 c (List.mem_filter.mpr ⟨hc, hi⟩)
  · simpa [hi] using h
set_option maxRecDepth 65536 in
theorem w_c0 : (Jvm.Cond.code x code maxLocals ret).before args0 about1 = true := code_word (m := ⟨1, 2⟩) (meth := k1m2) (c := k1c2) (by decide +kernel) rfl rfl rfl (by decide +kernel)
set_option maxRecDepth 65536 in
theorem w_c1 : (Jvm.Cond.code ({ cls := "com/example/circa_once/circaonce/messaging/ConsumeResultOfPinLaw", name := "pick", desc := "(I)Lcom/example/circa_once/circaonce/messaging/ConsumeResult$Kind;" } : Jvm.MethodName) method_2_code (2 : Nat) (Option.some (Jvm.ClassFile.FieldType.object "com/example/circa_once/circaonce/messaging/ConsumeResult$Kind"))).before args0 about1 = true := code_word (m := ⟨1, 1⟩) (meth := k1m1) (c := k1c1) (by decide +kernel) rfl rfl rfl (by decide +kernel)
set_option maxRecDepth 65536 in
theorem w_c2 : (Jvm.Cond.code ({ cls := "com/example/circa_once/circaonce/messaging/ConsumeResult", name := "of", desc := "(Lcom/example/circa_once/circaonce/messaging/ConsumeResult$Kind;)Lcom/example/circa_once/circaonce/messaging/ConsumeResult;" } : Jvm.MethodName) prog_7_method_2_code (1 : Nat) (Option.some (Jvm.ClassFile.FieldType.object "com/example/circa_once/circaonce/messaging/ConsumeResult"))).before args0 about1 = true := code_word (m := ⟨7, 1⟩) (meth := k7m1) (c := k7c1) (by decide +kernel) rfl rfl rfl (by decide +kernel)
set_option maxRecDepth 65536 in
theorem w_c3 : (Jvm.Cond.code ({ cls := "java/util/Objects", name := "requireNonNull", desc := "(Ljava/lang/Object;Ljava/lang/String;)Ljava/lang/Object;" } : Jvm.MethodName) jdk_31_method_11_code (2 : Nat) (Option.some (Jvm.ClassFile.FieldType.object "java/lang/Object"))).before args0 about1 = true := code_word (m := ⟨11, 1⟩) (meth := k11m1) (c := k11c1) (by decide +kernel) rfl rfl rfl (by decide +kernel)
set_option maxRecDepth 65536 in
theorem w_c4 : (Jvm.Cond.code ({ cls := "com/example/circa_once/circaonce/messaging/ConsumeResult", name := "<init>", desc := "(Lcom/example/circa_once/circaonce/messaging/ConsumeResult$Kind;)V" } : Jvm.MethodName) prog_7_method_1_code (2 : Nat) (Option.none : Option Jvm.ClassFile.FieldType)).before args0 about1 = true := code_word (m := ⟨7, 0⟩) (meth := k7m0) (c := k7c0) (by decide +kernel) rfl rfl rfl (by decide +kernel)
set_option maxRecDepth 65536 in
theorem w_c5 : (Jvm.Cond.code ({ cls := "java/lang/Object", name := "<init>", desc := "()V" } : Jvm.MethodName) object_method_1_code (1 : Nat) (Option.none : Option Jvm.ClassFile.FieldType)).before args0 about1 = true := code_word (m := ⟨0, 0⟩) (meth := k0m0) (c := k0c0) (by decide +kernel) rfl rfl rfl (by decide +kernel)
set_option maxRecDepth 65536 in
theorem w_c6 : (Jvm.Cond.code ({ cls := "com/example/circa_once/circaonce/messaging/ConsumeResult", name := "kind", desc := "()Lcom/example/circa_once/circaonce/messaging/ConsumeResult$Kind;" } : Jvm.MethodName) prog_7_method_3_code (1 : Nat) (Option.some (Jvm.ClassFile.FieldType.object "com/example/circa_once/circaonce/messaging/ConsumeResult$Kind"))).before args0 about1 = true := code_word (m := ⟨7, 2⟩) (meth := k7m2) (c := k7c2) (by decide +kernel) rfl rfl rfl (by decide +kernel)
def codes1 : List Jvm.Cond := [Jvm.Cond.code x code maxLocals ret, Jvm.Cond.code ({ cls := "com/example/circa_once/circaonce/messaging/ConsumeResultOfPinLaw", name := "pick", desc := "(I)Lcom/example/circa_once/circaonce/messaging/ConsumeResult$Kind;" } : Jvm.MethodName) method_2_code (2 : Nat) (Option.some (Jvm.ClassFile.FieldType.object "com/example/circa_once/circaonce/messaging/ConsumeResult$Kind")), Jvm.Cond.code ({ cls := "com/example/circa_once/circaonce/messaging/ConsumeResult", name := "of", desc := "(Lcom/example/circa_once/circaonce/messaging/ConsumeResult$Kind;)Lcom/example/circa_once/circaonce/messaging/ConsumeResult;" } : Jvm.MethodName) prog_7_method_2_code (1 : Nat) (Option.some (Jvm.ClassFile.FieldType.object "com/example/circa_once/circaonce/messaging/ConsumeResult")), Jvm.Cond.code ({ cls := "java/util/Objects", name := "requireNonNull", desc := "(Ljava/lang/Object;Ljava/lang/String;)Ljava/lang/Object;" } : Jvm.MethodName) jdk_31_method_11_code (2 : Nat) (Option.some (Jvm.ClassFile.FieldType.object "java/lang/Object")), Jvm.Cond.code ({ cls := "com/example/circa_once/circaonce/messaging/ConsumeResult", name := "<init>", desc := "(Lcom/example/circa_once/circaonce/messaging/ConsumeResult$Kind;)V" } : Jvm.MethodName) prog_7_method_1_code (2 : Nat) (Option.none : Option Jvm.ClassFile.FieldType), Jvm.Cond.code ({ cls := "java/lang/Object", name := "<init>", desc := "()V" } : Jvm.MethodName) object_method_1_code (1 : Nat) (Option.none : Option Jvm.ClassFile.FieldType), Jvm.Cond.code ({ cls := "com/example/circa_once/circaonce/messaging/ConsumeResult", name := "kind", desc := "()Lcom/example/circa_once/circaonce/messaging/ConsumeResult$Kind;" } : Jvm.MethodName) prog_7_method_3_code (1 : Nat) (Option.some (Jvm.ClassFile.FieldType.object "com/example/circa_once/circaonce/messaging/ConsumeResult$Kind"))]
set_option maxRecDepth 65536 in
theorem codes_eq : words1.filter isCode = codes1 := rfl
theorem w_codes : ∀ c ∈ words1.filter isCode, c.before args0 about1 = true := by
  rw [codes_eq]
  intro c hc
  simp only [codes1, List.mem_cons, List.not_mem_nil, or_false] at hc
  rcases hc with rfl | rfl | rfl | rfl | rfl | rfl | rfl
  · exact w_c0
  · exact w_c1
  · exact w_c2
  · exact w_c3
  · exact w_c4
  · exact w_c5
  · exact w_c6
set_option maxRecDepth 65536 in
theorem w_t1 : (words1.take 24).all (fun c => isCode c || c.before args0 about1) = true := by decide +kernel
set_option maxRecDepth 65536 in
theorem w_t2 : (words1.drop 24).all (fun c => isCode c || c.before args0 about1) = true := by decide +kernel
theorem w_tables : (allAtoms (Jvm.Cond.code x code maxLocals ret :: tables_1)).before args0 about1 = true := by
  rw [allAtoms_all]
  show words1.all (fun c => c.before args0 about1) = true
  refine all_split ?_ w_codes
  rw [← List.take_append_drop 24 words1, List.all_append, w_t1, w_t2]
  rfl
set_option maxRecDepth 65536 in
theorem w_case : (Jvm.Cond.and given_1 narrow_1).before args0 about1 = true := by decide +kernel
theorem w_applies : (headSpec (Jvm.Cond.code x code maxLocals ret :: tables_1) room_1).applies x e0.platform about1 = true :=
  (Spec.applies_iff w_frames).mpr ⟨w_running, w_runnable, w_alone, w_named, w_hears, w_ripe, w_room, w_tables⟩
theorem atStart : AtStart classFile x code maxLocals ret World_1 tables_1 room_1 Calls_1 rest_1 Pre_1 launch0 p0 e0 about1 theMethod args0 below0 :=
  ⟨lists_1, trivial, launch0.admits_env _ _ _, launch0.least_env, fairChoices_fair.cas, fairChoices_fair.clock, w_frames, w_args, w_heap, w_applies, trivial, trivial, w_case⟩
end start1
theorem witness_1 : WitnessClaimed_1 := ⟨start1.p0, start1.e0, start1.about1, start1.theMethod, start1.args0, start1.below0, start1.atStart⟩
end Jvm.Pilot.@@N@@
